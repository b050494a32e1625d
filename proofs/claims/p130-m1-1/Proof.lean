import JvmDerived
import JvmDerived.Pilot.@@N@@Statement
import JvmDerived.Pilot.@@N@@Code
set_option linter.unusedVariables false
set_option linter.unusedSimpArgs false
namespace Jvm.RoadKit
open Sem ClassFile Op Lib Jvm.Stand Jvm.Free Jvm.LawKit
section New
variable {p : Program} {l : Launch} {e : Env} {R : Room} {s : State} {m : MethodId} {args : Array Value} {below : List Frame} {meth : Method} {c : Code} {T : State} {locs : List Loc} {cells slots : Nat}
theorem retI (X : Stand p l e R s m args below meth c T locs cells slots) (hx : p.tables.exec = Jvm.exec) {pc : Nat} {Ls : Array Slot} {z : Int32} {rest : List Value} (hret : meth.sig.returnType = some .int) (hd : decode c.code pc = .ok (.ireturn, 1)) {fs : List Frame}
    (hl : ∀ (f : JFrame) (acts : List Action), f.method = m → f.locked = none → f.entered = [] → (doReturn e (T.setTop f) acts (some (.int z))).1 = T.setFrames fs) : Steps p.tables e below (T.setTop (mkF m pc Ls (.int z :: rest))) (T.setFrames fs) := by
  have hm' : T.vm.method? m = some meth := X.method'
  have hn : narrow .int (.int z) = .int z := rfl
  show Steps p.tables e below (T.setTop { method := m, pc := pc, locals := Ls, stack := _ :: rest, locked := none }) _
  jvm_step X.here [X.here.top, hx, hd, hm', hret, hn]
  first | (intro acts; rw [hl _ acts rfl rfl rfl]) | rw [hl _ _ rfl rfl rfl]
  exact Steps.refl _
end New
end Jvm.RoadKit
namespace Jvm.Pilot.@@N@@
open Jvm Jvm.ClassFile Sem Op Lib Jvm.Free Jvm.Stand Jvm.LawKit Jvm.RoadKit Bundle Jvm.Pilot.@@N@@.Jvm.D
def QV (w : Value) (h0 : Heap) (n0 : Nat) (v : Option Value) (h : Heap) (L : List Loc) : Prop := v = some w ∧ Fr n0 L ∧ h = h0
theorem d2_0 : decode jdk_29_method_65_code 0 = .ok (.iload_n 0, 1) := by decide +kernel
theorem d2_1 : decode jdk_29_method_65_code 1 = .ok (.iload_n 1, 1) := by decide +kernel
theorem d2_2 : decode jdk_29_method_65_code 2 = .ok (.if_icmp .lt 7, 3) := by decide +kernel
theorem d2_9 : decode jdk_29_method_65_code 9 = .ok (.iload_n 1, 1) := by decide +kernel
theorem d2_10 : decode jdk_29_method_65_code 10 = .ok (.ireturn, 1) := by decide +kernel
theorem ef_2 (m : MethodId) (x0 : Int32) (x1 : Int32) : entryFrame m #[(.int x0), (.int x1)] 2 = mkF m 0 #[.val (.int x0), .val (.int x1)] [] := by first | (simp [entryFrame, mkF, argsToLocals, Value.category]; done) | rfl
theorem d2_5 : decode jdk_29_method_65_code 5 = .ok (.iload_n 0, 1) := by decide +kernel
theorem d2_6 : decode jdk_29_method_65_code 6 = .ok (.goto 4, 3) := by decide +kernel
set_option maxRecDepth 65536 in
set_option maxHeartbeats 40000000 in
theorem rm2_t (l : Launch) (Z : State) (a0 : Array Value) (hw : ∀ d ∈ tables_1, d.before a0 Z = true) (ws : List Jvm.Cond) (p1 : Int32) (p2 : Int32) (h0 : Heap) (n0 : Nat) (Z0 : n0 ≤ h0.size) (hc2 : p1 < p2) :
    MetFree l (⟨"java/lang/Math", "max", "(II)I"⟩ : MethodName) (head1 (Jvm.Cond.code (⟨"java/lang/Math", "max", "(II)I"⟩ : MethodName) jdk_29_method_65_code 2 (some .int) :: ws) ({ frames := 0, cells := 0, slots := 0, locals := 0 } : Room)) (fun a U => a = #[(.int p1), (.int p2)] ∧ Z.Warmed39 U.vm ∧ U.heap = h0) (fun _ _ _ _ _ => True) (fun _ U o U' => ∃ v L, o = .returned v ∧ QV (.int p2) h0 n0 v U'.heap L ∧ FrameEnd U o U' L ({ frames := 0, cells := 0, slots := 0, locals := 0 } : Room).cells ({ frames := 0, cells := 0, slots := 0, locals := 0 } : Room).slots) := by
  refine MetFree.of_bodySF (Jvm.Free.JP.mathPlain rfl (by decide +kernel)) hisR ?_
  intro p e s m args below meth c s₁ Bd hml0 hP hK
  obtain ⟨rfl, hZ, hh⟩ := hP
  have hx := Bd.exec
  have hby := Bd.bytes
  have hml : c.maxLocals = 2 := hml0
  have hown : s.vm.findClass "java/lang/Math" = some m.cls := findClass_of_methodNamed Bd.named
  have hnm := (name_of_methodNamed Bd.named Bd.method).1
  have X0 : Stand p l e ({ frames := 0, cells := 0, slots := 0, locals := 0 } : Room) s m #[(.int p1), (.int p2)] below meth c s₁ [] 0 0 := Stand.of_body Bd
  have e0 : s₁.heap = h0 := by rw [← hh, Bd.state]; rfl
  have N0 := Fr.nil n0
  have pre0 : ∀ t, Steps p.tables e below (s₁.setTop (mkF m 0 #[.val (.int p1), .val (.int p2)] [])) t → Steps p.tables e below (s₁.setTop (entryFrame m #[(.int p1), (.int p2)] 2)) t := fun t k => castTop (ef_2 m p1 p2) k
  -- 3. LAWS
  obtain ⟨fs, hr, hrun, hended, hW, hsame⟩ := X0.leave (v := some (.int p2)) (fun h => by rw [Bd.returns] at h; cases h)
  refine ⟨_, _, pre0 _ ?_, hrun, hended, _, _, rfl, ?_, ⟨_, rfl⟩, hW, hsame.mono (by decide) (by decide)⟩
  -- 4. STEPS
  · show Steps p.tables e below (s₁.setTop (mkF m 0 #[.val (.int p1), .val (.int p2)] [])) _
    refine XS.iloadN X0.here hx rfl (hb hby d2_0) rfl ?_
    show Steps p.tables e below (s₁.setTop (mkF m 1 #[.val (.int p1), .val (.int p2)] [(.int p1)])) _
    refine XS.iloadN X0.here hx rfl (hb hby d2_1) rfl ?_
    show Steps p.tables e below (s₁.setTop (mkF m 2 #[.val (.int p1), .val (.int p2)] [(.int p2), (.int p1)])) _
    refine XS.icmpYes X0.here hx rfl (pc0 := 2) (pc' := 9) rfl (hb hby d2_2) rfl (tlt hc2).1 (by decide) (by decide) ?_
    show Steps p.tables e below (s₁.setTop (mkF m 9 #[.val (.int p1), .val (.int p2)] [])) _
    refine XS.iloadN X0.here hx rfl (hb hby d2_9) rfl ?_
    show Steps p.tables e below (s₁.setTop (mkF m 10 #[.val (.int p1), .val (.int p2)] [(.int p2)])) _
    exact retI X0 hx Bd.returns (hb hby d2_10) hr      -- retI stands in the head ('lawwalk <made dir>' prints it)
  · show QV (.int p2) h0 n0 _ s₁.heap _
    rw [e0]
    exact ⟨rfl, N0, rfl⟩
set_option maxRecDepth 65536 in
set_option maxHeartbeats 40000000 in
theorem rm2_f (l : Launch) (Z : State) (a0 : Array Value) (hw : ∀ d ∈ tables_1, d.before a0 Z = true) (ws : List Jvm.Cond) (p1 : Int32) (p2 : Int32) (h0 : Heap) (n0 : Nat) (Z0 : n0 ≤ h0.size) (hc2 : ¬ (p1 < p2)) :
    MetFree l (⟨"java/lang/Math", "max", "(II)I"⟩ : MethodName) (head1 (Jvm.Cond.code (⟨"java/lang/Math", "max", "(II)I"⟩ : MethodName) jdk_29_method_65_code 2 (some .int) :: ws) ({ frames := 0, cells := 0, slots := 0, locals := 0 } : Room)) (fun a U => a = #[(.int p1), (.int p2)] ∧ Z.Warmed39 U.vm ∧ U.heap = h0) (fun _ _ _ _ _ => True) (fun _ U o U' => ∃ v L, o = .returned v ∧ QV (.int p1) h0 n0 v U'.heap L ∧ FrameEnd U o U' L ({ frames := 0, cells := 0, slots := 0, locals := 0 } : Room).cells ({ frames := 0, cells := 0, slots := 0, locals := 0 } : Room).slots) := by
  refine MetFree.of_bodySF (Jvm.Free.JP.mathPlain rfl (by decide +kernel)) hisR ?_
  intro p e s m args below meth c s₁ Bd hml0 hP hK
  obtain ⟨rfl, hZ, hh⟩ := hP
  have hx := Bd.exec
  have hby := Bd.bytes
  have hml : c.maxLocals = 2 := hml0
  have hown : s.vm.findClass "java/lang/Math" = some m.cls := findClass_of_methodNamed Bd.named
  have hnm := (name_of_methodNamed Bd.named Bd.method).1
  have X0 : Stand p l e ({ frames := 0, cells := 0, slots := 0, locals := 0 } : Room) s m #[(.int p1), (.int p2)] below meth c s₁ [] 0 0 := Stand.of_body Bd
  have e0 : s₁.heap = h0 := by rw [← hh, Bd.state]; rfl
  have N0 := Fr.nil n0
  have pre0 : ∀ t, Steps p.tables e below (s₁.setTop (mkF m 0 #[.val (.int p1), .val (.int p2)] [])) t → Steps p.tables e below (s₁.setTop (entryFrame m #[(.int p1), (.int p2)] 2)) t := fun t k => castTop (ef_2 m p1 p2) k
  -- 3. LAWS
  obtain ⟨fs, hr, hrun, hended, hW, hsame⟩ := X0.leave (v := some (.int p1)) (fun h => by rw [Bd.returns] at h; cases h)
  refine ⟨_, _, pre0 _ ?_, hrun, hended, _, _, rfl, ?_, ⟨_, rfl⟩, hW, hsame.mono (by decide) (by decide)⟩
  -- 4. STEPS
  · show Steps p.tables e below (s₁.setTop (mkF m 0 #[.val (.int p1), .val (.int p2)] [])) _
    refine XS.iloadN X0.here hx rfl (hb hby d2_0) rfl ?_
    show Steps p.tables e below (s₁.setTop (mkF m 1 #[.val (.int p1), .val (.int p2)] [(.int p1)])) _
    refine XS.iloadN X0.here hx rfl (hb hby d2_1) rfl ?_
    show Steps p.tables e below (s₁.setTop (mkF m 2 #[.val (.int p1), .val (.int p2)] [(.int p2), (.int p1)])) _
    refine XS.icmpNo X0.here hx rfl (hb hby d2_2) rfl (flt hc2).1 ?_
    show Steps p.tables e below (s₁.setTop (mkF m 5 #[.val (.int p1), .val (.int p2)] [])) _
    refine XS.iloadN X0.here hx rfl (hb hby d2_5) rfl ?_
    show Steps p.tables e below (s₁.setTop (mkF m 6 #[.val (.int p1), .val (.int p2)] [(.int p1)])) _
    refine XS.goto X0.here hx rfl (pc0 := 6) (pc' := 10) rfl (hb hby d2_6) (by decide) (by decide) ?_
    show Steps p.tables e below (s₁.setTop (mkF m 10 #[.val (.int p1), .val (.int p2)] [(.int p1)])) _
    exact retI X0 hx Bd.returns (hb hby d2_10) hr      -- retI stands in the head ('lawwalk <made dir>' prints it)
  · show QV (.int p1) h0 n0 _ s₁.heap _
    rw [e0]
    exact ⟨rfl, N0, rfl⟩
def fv2 (p1 : Int32) (p2 : Int32) : Int32 := if p1 < p2 then p2 else p1
set_option maxRecDepth 65536 in
set_option maxHeartbeats 40000000 in
theorem rm2 (l : Launch) (Z : State) (a0 : Array Value) (hw : ∀ d ∈ tables_1, d.before a0 Z = true) (ws : List Jvm.Cond) (p1 : Int32) (p2 : Int32) (h0 : Heap) (n0 : Nat) (Z0 : n0 ≤ h0.size) :
    MetFree l (⟨"java/lang/Math", "max", "(II)I"⟩ : MethodName) (head1 (Jvm.Cond.code (⟨"java/lang/Math", "max", "(II)I"⟩ : MethodName) jdk_29_method_65_code 2 (some .int) :: ws) ({ frames := 0, cells := 0, slots := 0, locals := 0 } : Room)) (fun a U => a = #[(.int p1), (.int p2)] ∧ Z.Warmed39 U.vm ∧ U.heap = h0) (fun _ _ _ _ _ => True) (fun _ U o U' => ∃ v L, o = .returned v ∧ QV (.int (fv2 p1 p2)) h0 n0 v U'.heap L ∧ FrameEnd U o U' L ({ frames := 0, cells := 0, slots := 0, locals := 0 } : Room).cells ({ frames := 0, cells := 0, slots := 0, locals := 0 } : Room).slots) := by
  unfold fv2
  by_cases hc2 : p1 < p2
  · rw [if_pos hc2]
    exact rm2_t l Z a0 hw ws p1 p2 h0 n0 Z0 hc2
  · rw [if_neg hc2]
    exact rm2_f l Z a0 hw ws p1 p2 h0 n0 Z0 hc2
theorem d5_0 : decode jdk_29_method_66_code 0 = .ok (.lload_n 0, 1) := by decide +kernel
theorem d5_1 : decode jdk_29_method_66_code 1 = .ok (.lload_n 2, 1) := by decide +kernel
theorem d5_2 : decode jdk_29_method_66_code 2 = .ok (.lcmp, 1) := by decide +kernel
theorem d5_3 : decode jdk_29_method_66_code 3 = .ok (.ifCond .lt 7, 3) := by decide +kernel
theorem d5_10 : decode jdk_29_method_66_code 10 = .ok (.lload_n 2, 1) := by decide +kernel
theorem d5_11 : decode jdk_29_method_66_code 11 = .ok (.lreturn, 1) := by decide +kernel
theorem ef_5 (m : MethodId) (x0 : Int64) (x1 : Int64) : entryFrame m #[(.long x0), (.long x1)] 4 = mkF m 0 #[.val (.long x0), .second, .val (.long x1), .second] [] := by first | (simp [entryFrame, mkF, argsToLocals, Value.category]; done) | rfl
theorem d5_6 : decode jdk_29_method_66_code 6 = .ok (.lload_n 0, 1) := by decide +kernel
theorem d5_7 : decode jdk_29_method_66_code 7 = .ok (.goto 4, 3) := by decide +kernel
set_option maxRecDepth 65536 in
set_option maxHeartbeats 40000000 in
theorem rm5_t (l : Launch) (Z : State) (a0 : Array Value) (hw : ∀ d ∈ tables_1, d.before a0 Z = true) (ws : List Jvm.Cond) (q1 : Int64) (q2 : Int64) (h0 : Heap) (n0 : Nat) (Z0 : n0 ≤ h0.size) (hc3 : (lcmpW q1 q2) < (0 : Int32)) :
    MetFree l (⟨"java/lang/Math", "max", "(JJ)J"⟩ : MethodName) (head1 (Jvm.Cond.code (⟨"java/lang/Math", "max", "(JJ)J"⟩ : MethodName) jdk_29_method_66_code 4 (some .long) :: ws) ({ frames := 0, cells := 0, slots := 0, locals := 0 } : Room)) (fun a U => a = #[(.long q1), (.long q2)] ∧ Z.Warmed39 U.vm ∧ U.heap = h0) (fun _ _ _ _ _ => True) (fun _ U o U' => ∃ v L, o = .returned v ∧ QV (.long q2) h0 n0 v U'.heap L ∧ FrameEnd U o U' L ({ frames := 0, cells := 0, slots := 0, locals := 0 } : Room).cells ({ frames := 0, cells := 0, slots := 0, locals := 0 } : Room).slots) := by
  refine MetFree.of_bodySF (Jvm.Free.JP.mathPlain rfl (by decide +kernel)) hisR ?_
  intro p e s m args below meth c s₁ Bd hml0 hP hK
  obtain ⟨rfl, hZ, hh⟩ := hP
  have hx := Bd.exec
  have hby := Bd.bytes
  have hml : c.maxLocals = 4 := hml0
  have hown : s.vm.findClass "java/lang/Math" = some m.cls := findClass_of_methodNamed Bd.named
  have hnm := (name_of_methodNamed Bd.named Bd.method).1
  have X0 : Stand p l e ({ frames := 0, cells := 0, slots := 0, locals := 0 } : Room) s m #[(.long q1), (.long q2)] below meth c s₁ [] 0 0 := Stand.of_body Bd
  have e0 : s₁.heap = h0 := by rw [← hh, Bd.state]; rfl
  have N0 := Fr.nil n0
  have pre0 : ∀ t, Steps p.tables e below (s₁.setTop (mkF m 0 #[.val (.long q1), .second, .val (.long q2), .second] [])) t → Steps p.tables e below (s₁.setTop (entryFrame m #[(.long q1), (.long q2)] 4)) t := fun t k => castTop (ef_5 m q1 q2) k
  -- 3. LAWS
  obtain ⟨fs, hr, hrun, hended, hW, hsame⟩ := X0.leave (v := some (.long q2)) (fun h => by rw [Bd.returns] at h; cases h)
  refine ⟨_, _, pre0 _ ?_, hrun, hended, _, _, rfl, ?_, ⟨_, rfl⟩, hW, hsame.mono (by decide) (by decide)⟩
  -- 4. STEPS
  · show Steps p.tables e below (s₁.setTop (mkF m 0 #[.val (.long q1), .second, .val (.long q2), .second] [])) _
    refine XS.lloadN X0.here hx rfl (hb hby d5_0) rfl ?_
    show Steps p.tables e below (s₁.setTop (mkF m 1 #[.val (.long q1), .second, .val (.long q2), .second] [(.long q1)])) _
    refine XS.lloadN X0.here hx rfl (hb hby d5_1) rfl ?_
    show Steps p.tables e below (s₁.setTop (mkF m 2 #[.val (.long q1), .second, .val (.long q2), .second] [(.long q2), (.long q1)])) _
    refine XS.lcmp X0.here hx rfl (hb hby d5_2) rfl ?_
    show Steps p.tables e below (s₁.setTop (mkF m 3 #[.val (.long q1), .second, .val (.long q2), .second] [(.int (lcmpW q1 q2))])) _
    refine XS.ifYes X0.here hx rfl (pc0 := 3) (pc' := 10) rfl (hb hby d5_3) rfl ((if0 _ _).trans (tlt hc3).1) (by decide) (by decide) ?_
    show Steps p.tables e below (s₁.setTop (mkF m 10 #[.val (.long q1), .second, .val (.long q2), .second] [])) _
    refine XS.lloadN X0.here hx rfl (hb hby d5_10) rfl ?_
    show Steps p.tables e below (s₁.setTop (mkF m 11 #[.val (.long q1), .second, .val (.long q2), .second] [(.long q2)])) _
    jvm_step X0.here [X0.here.top, hx, (hb hby d5_11), X0.method', Bd.returns, narrow]
    first | (intro acts; rw [hr _ acts rfl rfl rfl]) | rw [hr _ _ rfl rfl rfl]
    exact Steps.refl _
  · show QV (.long q2) h0 n0 _ s₁.heap _
    rw [e0]
    exact ⟨rfl, N0, rfl⟩
set_option maxRecDepth 65536 in
set_option maxHeartbeats 40000000 in
theorem rm5_f (l : Launch) (Z : State) (a0 : Array Value) (hw : ∀ d ∈ tables_1, d.before a0 Z = true) (ws : List Jvm.Cond) (q1 : Int64) (q2 : Int64) (h0 : Heap) (n0 : Nat) (Z0 : n0 ≤ h0.size) (hc3 : ¬ ((lcmpW q1 q2) < (0 : Int32))) :
    MetFree l (⟨"java/lang/Math", "max", "(JJ)J"⟩ : MethodName) (head1 (Jvm.Cond.code (⟨"java/lang/Math", "max", "(JJ)J"⟩ : MethodName) jdk_29_method_66_code 4 (some .long) :: ws) ({ frames := 0, cells := 0, slots := 0, locals := 0 } : Room)) (fun a U => a = #[(.long q1), (.long q2)] ∧ Z.Warmed39 U.vm ∧ U.heap = h0) (fun _ _ _ _ _ => True) (fun _ U o U' => ∃ v L, o = .returned v ∧ QV (.long q1) h0 n0 v U'.heap L ∧ FrameEnd U o U' L ({ frames := 0, cells := 0, slots := 0, locals := 0 } : Room).cells ({ frames := 0, cells := 0, slots := 0, locals := 0 } : Room).slots) := by
  refine MetFree.of_bodySF (Jvm.Free.JP.mathPlain rfl (by decide +kernel)) hisR ?_
  intro p e s m args below meth c s₁ Bd hml0 hP hK
  obtain ⟨rfl, hZ, hh⟩ := hP
  have hx := Bd.exec
  have hby := Bd.bytes
  have hml : c.maxLocals = 4 := hml0
  have hown : s.vm.findClass "java/lang/Math" = some m.cls := findClass_of_methodNamed Bd.named
  have hnm := (name_of_methodNamed Bd.named Bd.method).1
  have X0 : Stand p l e ({ frames := 0, cells := 0, slots := 0, locals := 0 } : Room) s m #[(.long q1), (.long q2)] below meth c s₁ [] 0 0 := Stand.of_body Bd
  have e0 : s₁.heap = h0 := by rw [← hh, Bd.state]; rfl
  have N0 := Fr.nil n0
  have pre0 : ∀ t, Steps p.tables e below (s₁.setTop (mkF m 0 #[.val (.long q1), .second, .val (.long q2), .second] [])) t → Steps p.tables e below (s₁.setTop (entryFrame m #[(.long q1), (.long q2)] 4)) t := fun t k => castTop (ef_5 m q1 q2) k
  -- 3. LAWS
  obtain ⟨fs, hr, hrun, hended, hW, hsame⟩ := X0.leave (v := some (.long q1)) (fun h => by rw [Bd.returns] at h; cases h)
  refine ⟨_, _, pre0 _ ?_, hrun, hended, _, _, rfl, ?_, ⟨_, rfl⟩, hW, hsame.mono (by decide) (by decide)⟩
  -- 4. STEPS
  · show Steps p.tables e below (s₁.setTop (mkF m 0 #[.val (.long q1), .second, .val (.long q2), .second] [])) _
    refine XS.lloadN X0.here hx rfl (hb hby d5_0) rfl ?_
    show Steps p.tables e below (s₁.setTop (mkF m 1 #[.val (.long q1), .second, .val (.long q2), .second] [(.long q1)])) _
    refine XS.lloadN X0.here hx rfl (hb hby d5_1) rfl ?_
    show Steps p.tables e below (s₁.setTop (mkF m 2 #[.val (.long q1), .second, .val (.long q2), .second] [(.long q2), (.long q1)])) _
    refine XS.lcmp X0.here hx rfl (hb hby d5_2) rfl ?_
    show Steps p.tables e below (s₁.setTop (mkF m 3 #[.val (.long q1), .second, .val (.long q2), .second] [(.int (lcmpW q1 q2))])) _
    refine XS.ifNo X0.here hx rfl (hb hby d5_3) rfl ((if0 _ _).trans (flt hc3).1) ?_
    show Steps p.tables e below (s₁.setTop (mkF m 6 #[.val (.long q1), .second, .val (.long q2), .second] [])) _
    refine XS.lloadN X0.here hx rfl (hb hby d5_6) rfl ?_
    show Steps p.tables e below (s₁.setTop (mkF m 7 #[.val (.long q1), .second, .val (.long q2), .second] [(.long q1)])) _
    refine XS.goto X0.here hx rfl (pc0 := 7) (pc' := 11) rfl (hb hby d5_7) (by decide) (by decide) ?_
    show Steps p.tables e below (s₁.setTop (mkF m 11 #[.val (.long q1), .second, .val (.long q2), .second] [(.long q1)])) _
    jvm_step X0.here [X0.here.top, hx, (hb hby d5_11), X0.method', Bd.returns, narrow]
    first | (intro acts; rw [hr _ acts rfl rfl rfl]) | rw [hr _ _ rfl rfl rfl]
    exact Steps.refl _
  · show QV (.long q1) h0 n0 _ s₁.heap _
    rw [e0]
    exact ⟨rfl, N0, rfl⟩
def fv5 (q1 : Int64) (q2 : Int64) : Int64 := if (lcmpW q1 q2) < (0 : Int32) then q2 else q1
set_option maxRecDepth 65536 in
set_option maxHeartbeats 40000000 in
theorem rm5 (l : Launch) (Z : State) (a0 : Array Value) (hw : ∀ d ∈ tables_1, d.before a0 Z = true) (ws : List Jvm.Cond) (q1 : Int64) (q2 : Int64) (h0 : Heap) (n0 : Nat) (Z0 : n0 ≤ h0.size) :
    MetFree l (⟨"java/lang/Math", "max", "(JJ)J"⟩ : MethodName) (head1 (Jvm.Cond.code (⟨"java/lang/Math", "max", "(JJ)J"⟩ : MethodName) jdk_29_method_66_code 4 (some .long) :: ws) ({ frames := 0, cells := 0, slots := 0, locals := 0 } : Room)) (fun a U => a = #[(.long q1), (.long q2)] ∧ Z.Warmed39 U.vm ∧ U.heap = h0) (fun _ _ _ _ _ => True) (fun _ U o U' => ∃ v L, o = .returned v ∧ QV (.long (fv5 q1 q2)) h0 n0 v U'.heap L ∧ FrameEnd U o U' L ({ frames := 0, cells := 0, slots := 0, locals := 0 } : Room).cells ({ frames := 0, cells := 0, slots := 0, locals := 0 } : Room).slots) := by
  unfold fv5
  by_cases hc3 : (lcmpW q1 q2) < (0 : Int32)
  · rw [if_pos hc3]
    exact rm5_t l Z a0 hw ws q1 q2 h0 n0 Z0 hc3
  · rw [if_neg hc3]
    exact rm5_f l Z a0 hw ws q1 q2 h0 n0 Z0 hc3
theorem d1_0 : decode method_2_code 0 = .ok (.iload_n 1, 1) := by decide +kernel
theorem d1_1 : decode method_2_code 1 = .ok (.ifCond .eq 5, 3) := by decide +kernel
theorem d1_6 : decode method_2_code 6 = .ok (.iconst 1, 1) := by decide +kernel
theorem d1_7 : decode method_2_code 7 = .ok (.iload_n 0, 1) := by decide +kernel
theorem d1_8 : decode method_2_code 8 = .ok (.ldc 7, 2) := by decide +kernel
theorem d1_10 : decode method_2_code 10 = .ok (.iand, 1) := by decide +kernel
theorem d1_11 : decode method_2_code 11 = .ok (.invokestatic 8, 3) := by decide +kernel
theorem d1_14 : decode method_2_code 14 = .ok (.ireturn, 1) := by decide +kernel
theorem pn_1 : plainName "com/example/bounded_fetch/boundedfetch/FieldMetadataDeeperPinLaw" = true := by first | (simp [plainName, overriddenIn]; done) | decide +kernel
theorem pd_1_0 : parseMethodDescriptor "(II)I" = some ⟨[.int, .int], some .int⟩ := by decide +kernel
theorem ef_1 (m : MethodId) (x0 : Int32) (x1 : Int32) : entryFrame m #[(.int x0), (.int x1)] 2 = mkF m 0 #[.val (.int x0), .val (.int x1)] [] := by first | (simp [entryFrame, mkF, argsToLocals, Value.category]; done) | rfl
theorem d1_4 : decode method_2_code 4 = .ok (.iconst (-1), 1) := by decide +kernel
theorem d1_5 : decode method_2_code 5 = .ok (.ireturn, 1) := by decide +kernel
set_option maxRecDepth 65536 in
set_option maxHeartbeats 40000000 in
theorem rm1_t (l : Launch) (Z : State) (a0 : Array Value) (hw : ∀ d ∈ tables_1, d.before a0 Z = true) (ws : List Jvm.Cond) (p1 : Int32) (p2 : Int32) (h0 : Heap) (n0 : Nat) (Z0 : n0 ≤ h0.size) (hc1 : p2 = (0 : Int32)) :
    MetFree l (⟨"com/example/bounded_fetch/boundedfetch/FieldMetadataDeeperPinLaw", "depthOf", "(II)I"⟩ : MethodName) (head1 (Jvm.Cond.code (⟨"com/example/bounded_fetch/boundedfetch/FieldMetadataDeeperPinLaw", "depthOf", "(II)I"⟩ : MethodName) method_2_code 2 (some .int) :: ws) ({ frames := 1, cells := 0, slots := 0, locals := 13 } : Room)) (fun a U => a = #[(.int p1), (.int p2)] ∧ Z.Warmed39 U.vm ∧ U.heap = h0) (fun _ _ _ _ _ => True) (fun _ U o U' => ∃ v L, o = .returned v ∧ QV (.int (fv2 (1 : Int32) (p1 &&& (2147483647 : Int32)))) h0 n0 v U'.heap L ∧ FrameEnd U o U' L ({ frames := 1, cells := 0, slots := 0, locals := 13 } : Room).cells ({ frames := 1, cells := 0, slots := 0, locals := 13 } : Room).slots) := by
  refine MetFree.of_bodySF (plainFor_of_name pn_1) hisR ?_
  intro p e s m args below meth c s₁ Bd hml0 hP hK
  obtain ⟨rfl, hZ, hh⟩ := hP
  have hx := Bd.exec
  have hby := Bd.bytes
  have hml : c.maxLocals = 2 := hml0
  have hown : s.vm.findClass "com/example/bounded_fetch/boundedfetch/FieldMetadataDeeperPinLaw" = some m.cls := findClass_of_methodNamed Bd.named
  have hnm := (name_of_methodNamed Bd.named Bd.method).1
  have X0 : Stand p l e ({ frames := 1, cells := 0, slots := 0, locals := 13 } : Room) s m #[(.int p1), (.int p2)] below meth c s₁ [] 0 0 := Stand.of_body Bd
  have e0 : s₁.heap = h0 := by rw [← hh, Bd.state]; rfl
  have N0 := Fr.nil n0
  have pre0 : ∀ t, Steps p.tables e below (s₁.setTop (mkF m 0 #[.val (.int p1), .val (.int p2)] [])) t → Steps p.tables e below (s₁.setTop (entryFrame m #[(.int p1), (.int p2)] 2)) t := fun t k => castTop (ef_1 m p1 p2) k
  -- 3. LAWS
  -- pc 11: java/lang/Math.max by its contract rm2
  obtain ⟨_, _, ⟨T3, L3, k3, n3⟩, -, X3, ⟨Lc3, hQ3, l3, y3, z3⟩, st3⟩ := Jvm.LawKit.callS X0 hx (y := (⟨"java/lang/Math", "max", "(II)I"⟩ : MethodName)) hown (mvT hZ (hw _ (List.mem_of_getElem? (i := 5) rfl))) (mvT hZ (hw _ (List.mem_of_getElem? (i := 6) rfl))) (mvT hZ (hw _ (List.mem_of_getElem? (i := 7) rfl))) (mvT hZ (hw _ (List.mem_of_getElem? (i := 8) rfl))) (by decide) (backOf (W := 0) (rm2 l Z a0 hw [] (1 : Int32) (p1 &&& (2147483647 : Int32)) h0 n0 Z0) hZ (hw _ (List.mem_of_getElem? (i := 8) rfl)) (hw _ (List.mem_of_getElem? (i := 7) rfl)) (by decide) (by decide)) (g := (mkF m 11 #[.val (.int p1), .val (.int p2)] [(.int (p1 &&& (2147483647 : Int32))), (.int (1 : Int32))])) rfl (by rw [hml]; rfl) (argsL := [(.int (1 : Int32)), (.int (p1 &&& (2147483647 : Int32)))]) (rest := []) (lenOf pd_1_0 rfl) rfl (by show 2 * 0 + _ ≤ _; exact Nat.le_of_eq rfl) (hb hby d1_11) (fun _ _ => ⟨rfl, e0, (by decide : 0 + 0 ≤ _), (by decide : 0 + 0 ≤ _)⟩)
  dsimp only [Pt.U, Pt.locs, Pt.cells, Pt.slots] at X3 l3 y3 z3 st3 hQ3
  subst l3 y3 z3
  obtain ⟨rfl, N3q, eh3⟩ := hQ3
  have Zh3 : n0 ≤ T3.heap.size := by rw [eh3]; exact Z0
  have N3 := Fr.app N0 N3q
  obtain ⟨fs, hr, hrun, hended, hW, hsame⟩ := X3.leave (v := some (.int (fv2 (1 : Int32) (p1 &&& (2147483647 : Int32))))) (fun h => by rw [Bd.returns] at h; cases h)
  refine ⟨_, _, pre0 _ ?_, hrun, hended, _, _, rfl, ?_, ⟨_, rfl⟩, hW, hsame.mono (by decide) (by decide)⟩
  -- 4. STEPS
  · show Steps p.tables e below (s₁.setTop (mkF m 0 #[.val (.int p1), .val (.int p2)] [])) _
    refine XS.iloadN X0.here hx rfl (hb hby d1_0) rfl ?_
    show Steps p.tables e below (s₁.setTop (mkF m 1 #[.val (.int p1), .val (.int p2)] [(.int p2)])) _
    refine XS.ifYes X0.here hx rfl (pc0 := 1) (pc' := 6) rfl (hb hby d1_1) rfl ((if0 _ _).trans (teq hc1).1) (by decide) (by decide) ?_
    show Steps p.tables e below (s₁.setTop (mkF m 6 #[.val (.int p1), .val (.int p2)] [])) _
    refine XS.iconst X0.here hx rfl (hb hby d1_6) ?_
    show Steps p.tables e below (s₁.setTop (mkF m 7 #[.val (.int p1), .val (.int p2)] [(.int (1 : Int32))])) _
    refine XS.iloadN X0.here hx rfl (hb hby d1_7) rfl ?_
    show Steps p.tables e below (s₁.setTop (mkF m 8 #[.val (.int p1), .val (.int p2)] [(.int p1), (.int (1 : Int32))])) _
    refine X0.ldcInt hx hown (mvT hZ (hw _ (List.mem_of_getElem? (i := 4) rfl))) (g := (mkF m 8 #[.val (.int p1), .val (.int p2)] [(.int p1), (.int (1 : Int32))])) rfl (hb hby d1_8) _ ?_
    show Steps p.tables e below (s₁.setTop (mkF m 10 #[.val (.int p1), .val (.int p2)] [(.int (2147483647 : Int32)), (.int p1), (.int (1 : Int32))])) _
    refine XS.iand X0.here hx rfl (hb hby d1_10) rfl ?_
    show Steps p.tables e below (s₁.setTop (mkF m 11 #[.val (.int p1), .val (.int p2)] [(.int (p1 &&& (2147483647 : Int32))), (.int (1 : Int32))])) _
    refine st3 _ ?_
    show Steps p.tables e below (T3.setTop (mkF m 14 #[.val (.int p1), .val (.int p2)] [(.int (fv2 (1 : Int32) (p1 &&& (2147483647 : Int32))))])) _
    exact retI X3 hx Bd.returns (hb hby d1_14) hr      -- retI stands in the head ('lawwalk <made dir>' prints it)
  · show QV (.int (fv2 (1 : Int32) (p1 &&& (2147483647 : Int32)))) h0 n0 _ T3.heap _
    exact ⟨rfl, N3, (by rw [eh3])⟩
set_option maxRecDepth 65536 in
set_option maxHeartbeats 40000000 in
theorem rm1_f (l : Launch) (Z : State) (a0 : Array Value) (hw : ∀ d ∈ tables_1, d.before a0 Z = true) (ws : List Jvm.Cond) (p1 : Int32) (p2 : Int32) (h0 : Heap) (n0 : Nat) (Z0 : n0 ≤ h0.size) (hc1 : ¬ (p2 = (0 : Int32))) :
    MetFree l (⟨"com/example/bounded_fetch/boundedfetch/FieldMetadataDeeperPinLaw", "depthOf", "(II)I"⟩ : MethodName) (head1 (Jvm.Cond.code (⟨"com/example/bounded_fetch/boundedfetch/FieldMetadataDeeperPinLaw", "depthOf", "(II)I"⟩ : MethodName) method_2_code 2 (some .int) :: ws) ({ frames := 1, cells := 0, slots := 0, locals := 13 } : Room)) (fun a U => a = #[(.int p1), (.int p2)] ∧ Z.Warmed39 U.vm ∧ U.heap = h0) (fun _ _ _ _ _ => True) (fun _ U o U' => ∃ v L, o = .returned v ∧ QV (.int (-1 : Int32)) h0 n0 v U'.heap L ∧ FrameEnd U o U' L ({ frames := 1, cells := 0, slots := 0, locals := 13 } : Room).cells ({ frames := 1, cells := 0, slots := 0, locals := 13 } : Room).slots) := by
  refine MetFree.of_bodySF (plainFor_of_name pn_1) hisR ?_
  intro p e s m args below meth c s₁ Bd hml0 hP hK
  obtain ⟨rfl, hZ, hh⟩ := hP
  have hx := Bd.exec
  have hby := Bd.bytes
  have hml : c.maxLocals = 2 := hml0
  have hown : s.vm.findClass "com/example/bounded_fetch/boundedfetch/FieldMetadataDeeperPinLaw" = some m.cls := findClass_of_methodNamed Bd.named
  have hnm := (name_of_methodNamed Bd.named Bd.method).1
  have X0 : Stand p l e ({ frames := 1, cells := 0, slots := 0, locals := 13 } : Room) s m #[(.int p1), (.int p2)] below meth c s₁ [] 0 0 := Stand.of_body Bd
  have e0 : s₁.heap = h0 := by rw [← hh, Bd.state]; rfl
  have N0 := Fr.nil n0
  have pre0 : ∀ t, Steps p.tables e below (s₁.setTop (mkF m 0 #[.val (.int p1), .val (.int p2)] [])) t → Steps p.tables e below (s₁.setTop (entryFrame m #[(.int p1), (.int p2)] 2)) t := fun t k => castTop (ef_1 m p1 p2) k
  -- 3. LAWS
  obtain ⟨fs, hr, hrun, hended, hW, hsame⟩ := X0.leave (v := some (.int (-1 : Int32))) (fun h => by rw [Bd.returns] at h; cases h)
  refine ⟨_, _, pre0 _ ?_, hrun, hended, _, _, rfl, ?_, ⟨_, rfl⟩, hW, hsame.mono (by decide) (by decide)⟩
  -- 4. STEPS
  · show Steps p.tables e below (s₁.setTop (mkF m 0 #[.val (.int p1), .val (.int p2)] [])) _
    refine XS.iloadN X0.here hx rfl (hb hby d1_0) rfl ?_
    show Steps p.tables e below (s₁.setTop (mkF m 1 #[.val (.int p1), .val (.int p2)] [(.int p2)])) _
    refine XS.ifNo X0.here hx rfl (hb hby d1_1) rfl ((if0 _ _).trans (feq hc1).1) ?_
    show Steps p.tables e below (s₁.setTop (mkF m 4 #[.val (.int p1), .val (.int p2)] [])) _
    refine XS.iconst X0.here hx rfl (hb hby d1_4) ?_
    show Steps p.tables e below (s₁.setTop (mkF m 5 #[.val (.int p1), .val (.int p2)] [(.int (-1 : Int32))])) _
    exact retI X0 hx Bd.returns (hb hby d1_5) hr      -- retI stands in the head ('lawwalk <made dir>' prints it)
  · show QV (.int (-1 : Int32)) h0 n0 _ s₁.heap _
    rw [e0]
    exact ⟨rfl, N0, rfl⟩
def fv1 (p1 : Int32) (p2 : Int32) : Int32 := if p2 = (0 : Int32) then (fv2 (1 : Int32) (p1 &&& (2147483647 : Int32))) else (-1 : Int32)
set_option maxRecDepth 65536 in
set_option maxHeartbeats 40000000 in
theorem rm1 (l : Launch) (Z : State) (a0 : Array Value) (hw : ∀ d ∈ tables_1, d.before a0 Z = true) (ws : List Jvm.Cond) (p1 : Int32) (p2 : Int32) (h0 : Heap) (n0 : Nat) (Z0 : n0 ≤ h0.size) :
    MetFree l (⟨"com/example/bounded_fetch/boundedfetch/FieldMetadataDeeperPinLaw", "depthOf", "(II)I"⟩ : MethodName) (head1 (Jvm.Cond.code (⟨"com/example/bounded_fetch/boundedfetch/FieldMetadataDeeperPinLaw", "depthOf", "(II)I"⟩ : MethodName) method_2_code 2 (some .int) :: ws) ({ frames := 1, cells := 0, slots := 0, locals := 13 } : Room)) (fun a U => a = #[(.int p1), (.int p2)] ∧ Z.Warmed39 U.vm ∧ U.heap = h0) (fun _ _ _ _ _ => True) (fun _ U o U' => ∃ v L, o = .returned v ∧ QV (.int (fv1 p1 p2)) h0 n0 v U'.heap L ∧ FrameEnd U o U' L ({ frames := 1, cells := 0, slots := 0, locals := 13 } : Room).cells ({ frames := 1, cells := 0, slots := 0, locals := 13 } : Room).slots) := by
  unfold fv1
  by_cases hc1 : p2 = (0 : Int32)
  · rw [if_pos hc1]
    exact rm1_t l Z a0 hw ws p1 p2 h0 n0 Z0 hc1
  · rw [if_neg hc1]
    exact rm1_f l Z a0 hw ws p1 p2 h0 n0 Z0 hc1
theorem d3_0 : decode prog_13_method_23_code 0 = .ok (.iload_n 0, 1) := by decide +kernel
theorem d3_1 : decode prog_13_method_23_code 1 = .ok (.iconst (-1), 1) := by decide +kernel
theorem d3_2 : decode prog_13_method_23_code 2 = .ok (.if_icmp .eq 8, 3) := by decide +kernel
theorem d3_10 : decode prog_13_method_23_code 10 = .ok (.iconst (-1), 1) := by decide +kernel
theorem d3_11 : decode prog_13_method_23_code 11 = .ok (.goto 8, 3) := by decide +kernel
theorem d3_19 : decode prog_13_method_23_code 19 = .ok (.ireturn, 1) := by decide +kernel
theorem pn_3 : plainName "com/example/bounded_fetch/boundedfetch/FieldMetadata" = true := by first | (simp [plainName, overriddenIn]; done) | decide +kernel
theorem ef_3 (m : MethodId) (x0 : Int32) (x1 : Int32) : entryFrame m #[(.int x0), (.int x1)] 2 = mkF m 0 #[.val (.int x0), .val (.int x1)] [] := by first | (simp [entryFrame, mkF, argsToLocals, Value.category]; done) | rfl
theorem d3_5 : decode prog_13_method_23_code 5 = .ok (.iload_n 1, 1) := by decide +kernel
theorem d3_6 : decode prog_13_method_23_code 6 = .ok (.iconst (-1), 1) := by decide +kernel
theorem d3_7 : decode prog_13_method_23_code 7 = .ok (.if_icmp .ne 7, 3) := by decide +kernel
theorem d3_14 : decode prog_13_method_23_code 14 = .ok (.iload_n 0, 1) := by decide +kernel
theorem d3_15 : decode prog_13_method_23_code 15 = .ok (.iload_n 1, 1) := by decide +kernel
theorem d3_16 : decode prog_13_method_23_code 16 = .ok (.invokestatic 263, 3) := by decide +kernel
theorem pd_3_0 : parseMethodDescriptor "(II)I" = some ⟨[.int, .int], some .int⟩ := by decide +kernel
set_option maxRecDepth 65536 in
set_option maxHeartbeats 40000000 in
theorem rm3_t (l : Launch) (Z : State) (a0 : Array Value) (hw : ∀ d ∈ tables_1, d.before a0 Z = true) (ws : List Jvm.Cond) (p1 : Int32) (p2 : Int32) (h0 : Heap) (n0 : Nat) (Z0 : n0 ≤ h0.size) (hc2 : p1 = (-1 : Int32)) :
    MetFree l (⟨"com/example/bounded_fetch/boundedfetch/FieldMetadata", "deeper", "(II)I"⟩ : MethodName) (head1 (Jvm.Cond.code (⟨"com/example/bounded_fetch/boundedfetch/FieldMetadata", "deeper", "(II)I"⟩ : MethodName) prog_13_method_23_code 2 (some .int) :: ws) ({ frames := 1, cells := 0, slots := 0, locals := 13 } : Room)) (fun a U => a = #[(.int p1), (.int p2)] ∧ Z.Warmed39 U.vm ∧ U.heap = h0) (fun _ _ _ _ _ => True) (fun _ U o U' => ∃ v L, o = .returned v ∧ QV (.int (-1 : Int32)) h0 n0 v U'.heap L ∧ FrameEnd U o U' L ({ frames := 1, cells := 0, slots := 0, locals := 13 } : Room).cells ({ frames := 1, cells := 0, slots := 0, locals := 13 } : Room).slots) := by
  refine MetFree.of_bodySF (plainFor_of_name pn_3) hisR ?_
  intro p e s m args below meth c s₁ Bd hml0 hP hK
  obtain ⟨rfl, hZ, hh⟩ := hP
  have hx := Bd.exec
  have hby := Bd.bytes
  have hml : c.maxLocals = 2 := hml0
  have hown : s.vm.findClass "com/example/bounded_fetch/boundedfetch/FieldMetadata" = some m.cls := findClass_of_methodNamed Bd.named
  have hnm := (name_of_methodNamed Bd.named Bd.method).1
  have X0 : Stand p l e ({ frames := 1, cells := 0, slots := 0, locals := 13 } : Room) s m #[(.int p1), (.int p2)] below meth c s₁ [] 0 0 := Stand.of_body Bd
  have e0 : s₁.heap = h0 := by rw [← hh, Bd.state]; rfl
  have N0 := Fr.nil n0
  have pre0 : ∀ t, Steps p.tables e below (s₁.setTop (mkF m 0 #[.val (.int p1), .val (.int p2)] [])) t → Steps p.tables e below (s₁.setTop (entryFrame m #[(.int p1), (.int p2)] 2)) t := fun t k => castTop (ef_3 m p1 p2) k
  -- 3. LAWS
  obtain ⟨fs, hr, hrun, hended, hW, hsame⟩ := X0.leave (v := some (.int (-1 : Int32))) (fun h => by rw [Bd.returns] at h; cases h)
  refine ⟨_, _, pre0 _ ?_, hrun, hended, _, _, rfl, ?_, ⟨_, rfl⟩, hW, hsame.mono (by decide) (by decide)⟩
  -- 4. STEPS
  · show Steps p.tables e below (s₁.setTop (mkF m 0 #[.val (.int p1), .val (.int p2)] [])) _
    refine XS.iloadN X0.here hx rfl (hb hby d3_0) rfl ?_
    show Steps p.tables e below (s₁.setTop (mkF m 1 #[.val (.int p1), .val (.int p2)] [(.int p1)])) _
    refine XS.iconst X0.here hx rfl (hb hby d3_1) ?_
    show Steps p.tables e below (s₁.setTop (mkF m 2 #[.val (.int p1), .val (.int p2)] [(.int (-1 : Int32)), (.int p1)])) _
    refine XS.icmpYes X0.here hx rfl (pc0 := 2) (pc' := 10) rfl (hb hby d3_2) rfl (teq hc2).1 (by decide) (by decide) ?_
    show Steps p.tables e below (s₁.setTop (mkF m 10 #[.val (.int p1), .val (.int p2)] [])) _
    refine XS.iconst X0.here hx rfl (hb hby d3_10) ?_
    show Steps p.tables e below (s₁.setTop (mkF m 11 #[.val (.int p1), .val (.int p2)] [(.int (-1 : Int32))])) _
    refine XS.goto X0.here hx rfl (pc0 := 11) (pc' := 19) rfl (hb hby d3_11) (by decide) (by decide) ?_
    show Steps p.tables e below (s₁.setTop (mkF m 19 #[.val (.int p1), .val (.int p2)] [(.int (-1 : Int32))])) _
    exact retI X0 hx Bd.returns (hb hby d3_19) hr      -- retI stands in the head ('lawwalk <made dir>' prints it)
  · show QV (.int (-1 : Int32)) h0 n0 _ s₁.heap _
    rw [e0]
    exact ⟨rfl, N0, rfl⟩
set_option maxRecDepth 65536 in
set_option maxHeartbeats 40000000 in
theorem rm3_ft (l : Launch) (Z : State) (a0 : Array Value) (hw : ∀ d ∈ tables_1, d.before a0 Z = true) (ws : List Jvm.Cond) (p1 : Int32) (p2 : Int32) (h0 : Heap) (n0 : Nat) (Z0 : n0 ≤ h0.size) (hc2 : ¬ (p1 = (-1 : Int32))) (hc7 : ¬ (p2 = (-1 : Int32))) :
    MetFree l (⟨"com/example/bounded_fetch/boundedfetch/FieldMetadata", "deeper", "(II)I"⟩ : MethodName) (head1 (Jvm.Cond.code (⟨"com/example/bounded_fetch/boundedfetch/FieldMetadata", "deeper", "(II)I"⟩ : MethodName) prog_13_method_23_code 2 (some .int) :: ws) ({ frames := 1, cells := 0, slots := 0, locals := 13 } : Room)) (fun a U => a = #[(.int p1), (.int p2)] ∧ Z.Warmed39 U.vm ∧ U.heap = h0) (fun _ _ _ _ _ => True) (fun _ U o U' => ∃ v L, o = .returned v ∧ QV (.int (fv2 p1 p2)) h0 n0 v U'.heap L ∧ FrameEnd U o U' L ({ frames := 1, cells := 0, slots := 0, locals := 13 } : Room).cells ({ frames := 1, cells := 0, slots := 0, locals := 13 } : Room).slots) := by
  refine MetFree.of_bodySF (plainFor_of_name pn_3) hisR ?_
  intro p e s m args below meth c s₁ Bd hml0 hP hK
  obtain ⟨rfl, hZ, hh⟩ := hP
  have hx := Bd.exec
  have hby := Bd.bytes
  have hml : c.maxLocals = 2 := hml0
  have hown : s.vm.findClass "com/example/bounded_fetch/boundedfetch/FieldMetadata" = some m.cls := findClass_of_methodNamed Bd.named
  have hnm := (name_of_methodNamed Bd.named Bd.method).1
  have X0 : Stand p l e ({ frames := 1, cells := 0, slots := 0, locals := 13 } : Room) s m #[(.int p1), (.int p2)] below meth c s₁ [] 0 0 := Stand.of_body Bd
  have e0 : s₁.heap = h0 := by rw [← hh, Bd.state]; rfl
  have N0 := Fr.nil n0
  have pre0 : ∀ t, Steps p.tables e below (s₁.setTop (mkF m 0 #[.val (.int p1), .val (.int p2)] [])) t → Steps p.tables e below (s₁.setTop (entryFrame m #[(.int p1), (.int p2)] 2)) t := fun t k => castTop (ef_3 m p1 p2) k
  -- 3. LAWS
  -- pc 16: java/lang/Math.max by its contract rm2
  obtain ⟨_, _, ⟨T3, L3, k3, n3⟩, -, X3, ⟨Lc3, hQ3, l3, y3, z3⟩, st3⟩ := Jvm.LawKit.callS X0 hx (y := (⟨"java/lang/Math", "max", "(II)I"⟩ : MethodName)) hown (mvT hZ (hw _ (List.mem_of_getElem? (i := 20) rfl))) (mvT hZ (hw _ (List.mem_of_getElem? (i := 6) rfl))) (mvT hZ (hw _ (List.mem_of_getElem? (i := 7) rfl))) (mvT hZ (hw _ (List.mem_of_getElem? (i := 8) rfl))) (by decide) (backOf (W := 0) (rm2 l Z a0 hw [] p1 p2 h0 n0 Z0) hZ (hw _ (List.mem_of_getElem? (i := 8) rfl)) (hw _ (List.mem_of_getElem? (i := 7) rfl)) (by decide) (by decide)) (g := (mkF m 16 #[.val (.int p1), .val (.int p2)] [(.int p2), (.int p1)])) rfl (by rw [hml]; rfl) (argsL := [(.int p1), (.int p2)]) (rest := []) (lenOf pd_3_0 rfl) rfl (by show 2 * 0 + _ ≤ _; exact Nat.le_of_eq rfl) (hb hby d3_16) (fun _ _ => ⟨rfl, e0, (by decide : 0 + 0 ≤ _), (by decide : 0 + 0 ≤ _)⟩)
  dsimp only [Pt.U, Pt.locs, Pt.cells, Pt.slots] at X3 l3 y3 z3 st3 hQ3
  subst l3 y3 z3
  obtain ⟨rfl, N3q, eh3⟩ := hQ3
  have Zh3 : n0 ≤ T3.heap.size := by rw [eh3]; exact Z0
  have N3 := Fr.app N0 N3q
  obtain ⟨fs, hr, hrun, hended, hW, hsame⟩ := X3.leave (v := some (.int (fv2 p1 p2))) (fun h => by rw [Bd.returns] at h; cases h)
  refine ⟨_, _, pre0 _ ?_, hrun, hended, _, _, rfl, ?_, ⟨_, rfl⟩, hW, hsame.mono (by decide) (by decide)⟩
  -- 4. STEPS
  · show Steps p.tables e below (s₁.setTop (mkF m 0 #[.val (.int p1), .val (.int p2)] [])) _
    refine XS.iloadN X0.here hx rfl (hb hby d3_0) rfl ?_
    show Steps p.tables e below (s₁.setTop (mkF m 1 #[.val (.int p1), .val (.int p2)] [(.int p1)])) _
    refine XS.iconst X0.here hx rfl (hb hby d3_1) ?_
    show Steps p.tables e below (s₁.setTop (mkF m 2 #[.val (.int p1), .val (.int p2)] [(.int (-1 : Int32)), (.int p1)])) _
    refine XS.icmpNo X0.here hx rfl (hb hby d3_2) rfl (feq hc2).1 ?_
    show Steps p.tables e below (s₁.setTop (mkF m 5 #[.val (.int p1), .val (.int p2)] [])) _
    refine XS.iloadN X0.here hx rfl (hb hby d3_5) rfl ?_
    show Steps p.tables e below (s₁.setTop (mkF m 6 #[.val (.int p1), .val (.int p2)] [(.int p2)])) _
    refine XS.iconst X0.here hx rfl (hb hby d3_6) ?_
    show Steps p.tables e below (s₁.setTop (mkF m 7 #[.val (.int p1), .val (.int p2)] [(.int (-1 : Int32)), (.int p2)])) _
    refine XS.icmpYes X0.here hx rfl (pc0 := 7) (pc' := 14) rfl (hb hby d3_7) rfl (feq hc7).2 (by decide) (by decide) ?_
    show Steps p.tables e below (s₁.setTop (mkF m 14 #[.val (.int p1), .val (.int p2)] [])) _
    refine XS.iloadN X0.here hx rfl (hb hby d3_14) rfl ?_
    show Steps p.tables e below (s₁.setTop (mkF m 15 #[.val (.int p1), .val (.int p2)] [(.int p1)])) _
    refine XS.iloadN X0.here hx rfl (hb hby d3_15) rfl ?_
    show Steps p.tables e below (s₁.setTop (mkF m 16 #[.val (.int p1), .val (.int p2)] [(.int p2), (.int p1)])) _
    refine st3 _ ?_
    show Steps p.tables e below (T3.setTop (mkF m 19 #[.val (.int p1), .val (.int p2)] [(.int (fv2 p1 p2))])) _
    exact retI X3 hx Bd.returns (hb hby d3_19) hr      -- retI stands in the head ('lawwalk <made dir>' prints it)
  · show QV (.int (fv2 p1 p2)) h0 n0 _ T3.heap _
    exact ⟨rfl, N3, (by rw [eh3])⟩
set_option maxRecDepth 65536 in
set_option maxHeartbeats 40000000 in
theorem rm3_ff (l : Launch) (Z : State) (a0 : Array Value) (hw : ∀ d ∈ tables_1, d.before a0 Z = true) (ws : List Jvm.Cond) (p1 : Int32) (p2 : Int32) (h0 : Heap) (n0 : Nat) (Z0 : n0 ≤ h0.size) (hc2 : ¬ (p1 = (-1 : Int32))) (hc7 : p2 = (-1 : Int32)) :
    MetFree l (⟨"com/example/bounded_fetch/boundedfetch/FieldMetadata", "deeper", "(II)I"⟩ : MethodName) (head1 (Jvm.Cond.code (⟨"com/example/bounded_fetch/boundedfetch/FieldMetadata", "deeper", "(II)I"⟩ : MethodName) prog_13_method_23_code 2 (some .int) :: ws) ({ frames := 1, cells := 0, slots := 0, locals := 13 } : Room)) (fun a U => a = #[(.int p1), (.int p2)] ∧ Z.Warmed39 U.vm ∧ U.heap = h0) (fun _ _ _ _ _ => True) (fun _ U o U' => ∃ v L, o = .returned v ∧ QV (.int (-1 : Int32)) h0 n0 v U'.heap L ∧ FrameEnd U o U' L ({ frames := 1, cells := 0, slots := 0, locals := 13 } : Room).cells ({ frames := 1, cells := 0, slots := 0, locals := 13 } : Room).slots) := by
  refine MetFree.of_bodySF (plainFor_of_name pn_3) hisR ?_
  intro p e s m args below meth c s₁ Bd hml0 hP hK
  obtain ⟨rfl, hZ, hh⟩ := hP
  have hx := Bd.exec
  have hby := Bd.bytes
  have hml : c.maxLocals = 2 := hml0
  have hown : s.vm.findClass "com/example/bounded_fetch/boundedfetch/FieldMetadata" = some m.cls := findClass_of_methodNamed Bd.named
  have hnm := (name_of_methodNamed Bd.named Bd.method).1
  have X0 : Stand p l e ({ frames := 1, cells := 0, slots := 0, locals := 13 } : Room) s m #[(.int p1), (.int p2)] below meth c s₁ [] 0 0 := Stand.of_body Bd
  have e0 : s₁.heap = h0 := by rw [← hh, Bd.state]; rfl
  have N0 := Fr.nil n0
  have pre0 : ∀ t, Steps p.tables e below (s₁.setTop (mkF m 0 #[.val (.int p1), .val (.int p2)] [])) t → Steps p.tables e below (s₁.setTop (entryFrame m #[(.int p1), (.int p2)] 2)) t := fun t k => castTop (ef_3 m p1 p2) k
  -- 3. LAWS
  obtain ⟨fs, hr, hrun, hended, hW, hsame⟩ := X0.leave (v := some (.int (-1 : Int32))) (fun h => by rw [Bd.returns] at h; cases h)
  refine ⟨_, _, pre0 _ ?_, hrun, hended, _, _, rfl, ?_, ⟨_, rfl⟩, hW, hsame.mono (by decide) (by decide)⟩
  -- 4. STEPS
  · show Steps p.tables e below (s₁.setTop (mkF m 0 #[.val (.int p1), .val (.int p2)] [])) _
    refine XS.iloadN X0.here hx rfl (hb hby d3_0) rfl ?_
    show Steps p.tables e below (s₁.setTop (mkF m 1 #[.val (.int p1), .val (.int p2)] [(.int p1)])) _
    refine XS.iconst X0.here hx rfl (hb hby d3_1) ?_
    show Steps p.tables e below (s₁.setTop (mkF m 2 #[.val (.int p1), .val (.int p2)] [(.int (-1 : Int32)), (.int p1)])) _
    refine XS.icmpNo X0.here hx rfl (hb hby d3_2) rfl (feq hc2).1 ?_
    show Steps p.tables e below (s₁.setTop (mkF m 5 #[.val (.int p1), .val (.int p2)] [])) _
    refine XS.iloadN X0.here hx rfl (hb hby d3_5) rfl ?_
    show Steps p.tables e below (s₁.setTop (mkF m 6 #[.val (.int p1), .val (.int p2)] [(.int p2)])) _
    refine XS.iconst X0.here hx rfl (hb hby d3_6) ?_
    show Steps p.tables e below (s₁.setTop (mkF m 7 #[.val (.int p1), .val (.int p2)] [(.int (-1 : Int32)), (.int p2)])) _
    refine XS.icmpNo X0.here hx rfl (hb hby d3_7) rfl (teq hc7).2 ?_
    show Steps p.tables e below (s₁.setTop (mkF m 10 #[.val (.int p1), .val (.int p2)] [])) _
    refine XS.iconst X0.here hx rfl (hb hby d3_10) ?_
    show Steps p.tables e below (s₁.setTop (mkF m 11 #[.val (.int p1), .val (.int p2)] [(.int (-1 : Int32))])) _
    refine XS.goto X0.here hx rfl (pc0 := 11) (pc' := 19) rfl (hb hby d3_11) (by decide) (by decide) ?_
    show Steps p.tables e below (s₁.setTop (mkF m 19 #[.val (.int p1), .val (.int p2)] [(.int (-1 : Int32))])) _
    exact retI X0 hx Bd.returns (hb hby d3_19) hr      -- retI stands in the head ('lawwalk <made dir>' prints it)
  · show QV (.int (-1 : Int32)) h0 n0 _ s₁.heap _
    rw [e0]
    exact ⟨rfl, N0, rfl⟩
def fv3 (p1 : Int32) (p2 : Int32) : Int32 := if p1 = (-1 : Int32) then (-1 : Int32) else (if p2 = (-1 : Int32) then (-1 : Int32) else (fv2 p1 p2))
set_option maxRecDepth 65536 in
set_option maxHeartbeats 40000000 in
theorem rm3 (l : Launch) (Z : State) (a0 : Array Value) (hw : ∀ d ∈ tables_1, d.before a0 Z = true) (ws : List Jvm.Cond) (p1 : Int32) (p2 : Int32) (h0 : Heap) (n0 : Nat) (Z0 : n0 ≤ h0.size) :
    MetFree l (⟨"com/example/bounded_fetch/boundedfetch/FieldMetadata", "deeper", "(II)I"⟩ : MethodName) (head1 (Jvm.Cond.code (⟨"com/example/bounded_fetch/boundedfetch/FieldMetadata", "deeper", "(II)I"⟩ : MethodName) prog_13_method_23_code 2 (some .int) :: ws) ({ frames := 1, cells := 0, slots := 0, locals := 13 } : Room)) (fun a U => a = #[(.int p1), (.int p2)] ∧ Z.Warmed39 U.vm ∧ U.heap = h0) (fun _ _ _ _ _ => True) (fun _ U o U' => ∃ v L, o = .returned v ∧ QV (.int (fv3 p1 p2)) h0 n0 v U'.heap L ∧ FrameEnd U o U' L ({ frames := 1, cells := 0, slots := 0, locals := 13 } : Room).cells ({ frames := 1, cells := 0, slots := 0, locals := 13 } : Room).slots) := by
  unfold fv3
  by_cases hc2 : p1 = (-1 : Int32)
  · rw [if_pos hc2]
    exact rm3_t l Z a0 hw ws p1 p2 h0 n0 Z0 hc2
  · rw [if_neg hc2]
    by_cases hc7 : p2 = (-1 : Int32)
    · rw [if_pos hc7]
      exact rm3_ff l Z a0 hw ws p1 p2 h0 n0 Z0 hc2 hc7
    · rw [if_neg hc7]
      exact rm3_ft l Z a0 hw ws p1 p2 h0 n0 Z0 hc2 hc7
theorem d4_0 : decode method_3_code 0 = .ok (.iload_n 0, 1) := by decide +kernel
theorem d4_1 : decode method_3_code 1 = .ok (.iconst (-1), 1) := by decide +kernel
theorem d4_2 : decode method_3_code 2 = .ok (.if_icmp .ne 7, 3) := by decide +kernel
theorem d4_9 : decode method_3_code 9 = .ok (.iload_n 0, 1) := by decide +kernel
theorem d4_10 : decode method_3_code 10 = .ok (.i2l, 1) := by decide +kernel
theorem d4_11 : decode method_3_code 11 = .ok (.lreturn, 1) := by decide +kernel
theorem pn_4 : plainName "com/example/bounded_fetch/boundedfetch/FieldMetadataDeeperPinLaw" = true := by first | (simp [plainName, overriddenIn]; done) | decide +kernel
theorem ef_4 (m : MethodId) (x0 : Int32) : entryFrame m #[(.int x0)] 1 = mkF m 0 #[.val (.int x0)] [] := by first | (simp [entryFrame, mkF, argsToLocals, Value.category]; done) | rfl
theorem d4_5 : decode method_3_code 5 = .ok (.ldc2_w 16, 3) := by decide +kernel
theorem d4_8 : decode method_3_code 8 = .ok (.lreturn, 1) := by decide +kernel
set_option maxRecDepth 65536 in
set_option maxHeartbeats 40000000 in
theorem rm4_t (l : Launch) (Z : State) (a0 : Array Value) (hw : ∀ d ∈ tables_1, d.before a0 Z = true) (ws : List Jvm.Cond) (p1 : Int32) (h0 : Heap) (n0 : Nat) (Z0 : n0 ≤ h0.size) (hc2 : ¬ (p1 = (-1 : Int32))) :
    MetFree l (⟨"com/example/bounded_fetch/boundedfetch/FieldMetadataDeeperPinLaw", "rank", "(I)J"⟩ : MethodName) (head1 (Jvm.Cond.code (⟨"com/example/bounded_fetch/boundedfetch/FieldMetadataDeeperPinLaw", "rank", "(I)J"⟩ : MethodName) method_3_code 1 (some .long) :: ws) ({ frames := 0, cells := 0, slots := 0, locals := 0 } : Room)) (fun a U => a = #[(.int p1)] ∧ Z.Warmed39 U.vm ∧ U.heap = h0) (fun _ _ _ _ _ => True) (fun _ U o U' => ∃ v L, o = .returned v ∧ QV (.long (p1.toInt64)) h0 n0 v U'.heap L ∧ FrameEnd U o U' L ({ frames := 0, cells := 0, slots := 0, locals := 0 } : Room).cells ({ frames := 0, cells := 0, slots := 0, locals := 0 } : Room).slots) := by
  refine MetFree.of_bodySF (plainFor_of_name pn_4) hisR ?_
  intro p e s m args below meth c s₁ Bd hml0 hP hK
  obtain ⟨rfl, hZ, hh⟩ := hP
  have hx := Bd.exec
  have hby := Bd.bytes
  have hml : c.maxLocals = 1 := hml0
  have hown : s.vm.findClass "com/example/bounded_fetch/boundedfetch/FieldMetadataDeeperPinLaw" = some m.cls := findClass_of_methodNamed Bd.named
  have hnm := (name_of_methodNamed Bd.named Bd.method).1
  have X0 : Stand p l e ({ frames := 0, cells := 0, slots := 0, locals := 0 } : Room) s m #[(.int p1)] below meth c s₁ [] 0 0 := Stand.of_body Bd
  have e0 : s₁.heap = h0 := by rw [← hh, Bd.state]; rfl
  have N0 := Fr.nil n0
  have pre0 : ∀ t, Steps p.tables e below (s₁.setTop (mkF m 0 #[.val (.int p1)] [])) t → Steps p.tables e below (s₁.setTop (entryFrame m #[(.int p1)] 1)) t := fun t k => castTop (ef_4 m p1) k
  -- 3. LAWS
  obtain ⟨fs, hr, hrun, hended, hW, hsame⟩ := X0.leave (v := some (.long (p1.toInt64))) (fun h => by rw [Bd.returns] at h; cases h)
  refine ⟨_, _, pre0 _ ?_, hrun, hended, _, _, rfl, ?_, ⟨_, rfl⟩, hW, hsame.mono (by decide) (by decide)⟩
  -- 4. STEPS
  · show Steps p.tables e below (s₁.setTop (mkF m 0 #[.val (.int p1)] [])) _
    refine XS.iloadN X0.here hx rfl (hb hby d4_0) rfl ?_
    show Steps p.tables e below (s₁.setTop (mkF m 1 #[.val (.int p1)] [(.int p1)])) _
    refine XS.iconst X0.here hx rfl (hb hby d4_1) ?_
    show Steps p.tables e below (s₁.setTop (mkF m 2 #[.val (.int p1)] [(.int (-1 : Int32)), (.int p1)])) _
    refine XS.icmpYes X0.here hx rfl (pc0 := 2) (pc' := 9) rfl (hb hby d4_2) rfl (feq hc2).2 (by decide) (by decide) ?_
    show Steps p.tables e below (s₁.setTop (mkF m 9 #[.val (.int p1)] [])) _
    refine XS.iloadN X0.here hx rfl (hb hby d4_9) rfl ?_
    show Steps p.tables e below (s₁.setTop (mkF m 10 #[.val (.int p1)] [(.int p1)])) _
    refine XS.i2l X0.here hx rfl (hb hby d4_10) rfl ?_
    show Steps p.tables e below (s₁.setTop (mkF m 11 #[.val (.int p1)] [(.long (p1.toInt64))])) _
    jvm_step X0.here [X0.here.top, hx, (hb hby d4_11), X0.method', Bd.returns, narrow]
    first | (intro acts; rw [hr _ acts rfl rfl rfl]) | rw [hr _ _ rfl rfl rfl]
    exact Steps.refl _
  · show QV (.long (p1.toInt64)) h0 n0 _ s₁.heap _
    rw [e0]
    exact ⟨rfl, N0, rfl⟩
set_option maxRecDepth 65536 in
set_option maxHeartbeats 40000000 in
theorem rm4_f (l : Launch) (Z : State) (a0 : Array Value) (hw : ∀ d ∈ tables_1, d.before a0 Z = true) (ws : List Jvm.Cond) (p1 : Int32) (h0 : Heap) (n0 : Nat) (Z0 : n0 ≤ h0.size) (hc2 : p1 = (-1 : Int32)) :
    MetFree l (⟨"com/example/bounded_fetch/boundedfetch/FieldMetadataDeeperPinLaw", "rank", "(I)J"⟩ : MethodName) (head1 (Jvm.Cond.code (⟨"com/example/bounded_fetch/boundedfetch/FieldMetadataDeeperPinLaw", "rank", "(I)J"⟩ : MethodName) method_3_code 1 (some .long) :: ws) ({ frames := 0, cells := 0, slots := 0, locals := 0 } : Room)) (fun a U => a = #[(.int p1)] ∧ Z.Warmed39 U.vm ∧ U.heap = h0) (fun _ _ _ _ _ => True) (fun _ U o U' => ∃ v L, o = .returned v ∧ QV (.long (9223372036854775807 : Int64)) h0 n0 v U'.heap L ∧ FrameEnd U o U' L ({ frames := 0, cells := 0, slots := 0, locals := 0 } : Room).cells ({ frames := 0, cells := 0, slots := 0, locals := 0 } : Room).slots) := by
  refine MetFree.of_bodySF (plainFor_of_name pn_4) hisR ?_
  intro p e s m args below meth c s₁ Bd hml0 hP hK
  obtain ⟨rfl, hZ, hh⟩ := hP
  have hx := Bd.exec
  have hby := Bd.bytes
  have hml : c.maxLocals = 1 := hml0
  have hown : s.vm.findClass "com/example/bounded_fetch/boundedfetch/FieldMetadataDeeperPinLaw" = some m.cls := findClass_of_methodNamed Bd.named
  have hnm := (name_of_methodNamed Bd.named Bd.method).1
  have X0 : Stand p l e ({ frames := 0, cells := 0, slots := 0, locals := 0 } : Room) s m #[(.int p1)] below meth c s₁ [] 0 0 := Stand.of_body Bd
  have e0 : s₁.heap = h0 := by rw [← hh, Bd.state]; rfl
  have N0 := Fr.nil n0
  have pre0 : ∀ t, Steps p.tables e below (s₁.setTop (mkF m 0 #[.val (.int p1)] [])) t → Steps p.tables e below (s₁.setTop (entryFrame m #[(.int p1)] 1)) t := fun t k => castTop (ef_4 m p1) k
  -- 3. LAWS
  obtain ⟨fs, hr, hrun, hended, hW, hsame⟩ := X0.leave (v := some (.long (9223372036854775807 : Int64))) (fun h => by rw [Bd.returns] at h; cases h)
  refine ⟨_, _, pre0 _ ?_, hrun, hended, _, _, rfl, ?_, ⟨_, rfl⟩, hW, hsame.mono (by decide) (by decide)⟩
  -- 4. STEPS
  · show Steps p.tables e below (s₁.setTop (mkF m 0 #[.val (.int p1)] [])) _
    refine XS.iloadN X0.here hx rfl (hb hby d4_0) rfl ?_
    show Steps p.tables e below (s₁.setTop (mkF m 1 #[.val (.int p1)] [(.int p1)])) _
    refine XS.iconst X0.here hx rfl (hb hby d4_1) ?_
    show Steps p.tables e below (s₁.setTop (mkF m 2 #[.val (.int p1)] [(.int (-1 : Int32)), (.int p1)])) _
    refine XS.icmpNo X0.here hx rfl (hb hby d4_2) rfl (teq hc2).2 ?_
    show Steps p.tables e below (s₁.setTop (mkF m 5 #[.val (.int p1)] [])) _
    refine X0.ldc2Long hx hown (mvT hZ (hw _ (List.mem_of_getElem? (i := 16) rfl))) (g := (mkF m 5 #[.val (.int p1)] [])) rfl (hb hby d4_5) _ ?_
    show Steps p.tables e below (s₁.setTop (mkF m 8 #[.val (.int p1)] [(.long (9223372036854775807 : Int64))])) _
    jvm_step X0.here [X0.here.top, hx, (hb hby d4_8), X0.method', Bd.returns, narrow]
    first | (intro acts; rw [hr _ acts rfl rfl rfl]) | rw [hr _ _ rfl rfl rfl]
    exact Steps.refl _
  · show QV (.long (9223372036854775807 : Int64)) h0 n0 _ s₁.heap _
    rw [e0]
    exact ⟨rfl, N0, rfl⟩
def fv4 (p1 : Int32) : Int64 := if p1 = (-1 : Int32) then (9223372036854775807 : Int64) else (p1.toInt64)
set_option maxRecDepth 65536 in
set_option maxHeartbeats 40000000 in
theorem rm4 (l : Launch) (Z : State) (a0 : Array Value) (hw : ∀ d ∈ tables_1, d.before a0 Z = true) (ws : List Jvm.Cond) (p1 : Int32) (h0 : Heap) (n0 : Nat) (Z0 : n0 ≤ h0.size) :
    MetFree l (⟨"com/example/bounded_fetch/boundedfetch/FieldMetadataDeeperPinLaw", "rank", "(I)J"⟩ : MethodName) (head1 (Jvm.Cond.code (⟨"com/example/bounded_fetch/boundedfetch/FieldMetadataDeeperPinLaw", "rank", "(I)J"⟩ : MethodName) method_3_code 1 (some .long) :: ws) ({ frames := 0, cells := 0, slots := 0, locals := 0 } : Room)) (fun a U => a = #[(.int p1)] ∧ Z.Warmed39 U.vm ∧ U.heap = h0) (fun _ _ _ _ _ => True) (fun _ U o U' => ∃ v L, o = .returned v ∧ QV (.long (fv4 p1)) h0 n0 v U'.heap L ∧ FrameEnd U o U' L ({ frames := 0, cells := 0, slots := 0, locals := 0 } : Room).cells ({ frames := 0, cells := 0, slots := 0, locals := 0 } : Room).slots) := by
  unfold fv4
  by_cases hc2 : p1 = (-1 : Int32)
  · rw [if_pos hc2]
    exact rm4_f l Z a0 hw ws p1 h0 n0 Z0 hc2
  · rw [if_neg hc2]
    exact rm4_t l Z a0 hw ws p1 h0 n0 Z0 hc2
theorem own_depth (a f : Int32) : fv1 a f = (-1 : Int32) ∨ 1 ≤ (fv1 a f).toInt := by
  have e1 : (1 : Int32).toInt = 1 := rfl
  unfold fv1
  split
  · right
    unfold fv2
    split
    · rename_i h; rw [Int32.lt_iff_toInt_lt] at h; omega
    · omega
  · left; rfl
theorem own_max (o : Int64) : ¬ lcmpW (9223372036854775807 : Int64) o < 0 := by
  rw [lw_lt, Int64.lt_iff_toInt_lt]
  have e : (9223372036854775807 : Int64).toInt = 9223372036854775807 := rfl
  have := o.toInt_lt
  omega
theorem own_ne {d : Int32} (h : 1 ≤ d.toInt) : ¬ d = (-1 : Int32) := fun q => by
  have e : (-1 : Int32).toInt = -1 := rfl
  rw [q] at h; omega
theorem own_lt (d : Int32) : lcmpW d.toInt64 (9223372036854775807 : Int64) < 0 := by
  rw [lw_lt, Int64.lt_iff_toInt_lt]
  have e : (9223372036854775807 : Int64).toInt = 9223372036854775807 := rfl
  have := c_i2l d
  have := d.toInt_lt
  omega
theorem own_rank (d o : Int32) (hd : d = (-1 : Int32) ∨ 1 ≤ d.toInt) (ho : o = (-1 : Int32) ∨ 1 ≤ o.toInt) : fv4 (fv3 d o) = fv5 (fv4 d) (fv4 o) := by
  rcases hd with rfl | hd
  · have e3 : fv3 (-1 : Int32) o = (-1 : Int32) := by unfold fv3; rw [if_pos rfl]
    have e4 : fv4 (-1 : Int32) = (9223372036854775807 : Int64) := by unfold fv4; rw [if_pos rfl]
    rw [e3, e4]; unfold fv5; rw [if_neg (own_max _)]
  · have hn := own_ne hd
    rcases ho with rfl | ho
    · have e3 : fv3 d (-1 : Int32) = (-1 : Int32) := by unfold fv3; rw [if_neg hn, if_pos rfl]
      have e4 : fv4 (-1 : Int32) = (9223372036854775807 : Int64) := by unfold fv4; rw [if_pos rfl]
      have e5 : fv4 d = d.toInt64 := by unfold fv4; rw [if_neg hn]
      rw [e3, e4, e5]; unfold fv5; rw [if_pos (own_lt d)]
    · have hm := own_ne ho
      have e3 : fv3 d o = fv2 d o := by unfold fv3; rw [if_neg hn, if_neg hm]
      have e5 : fv4 d = d.toInt64 := by unfold fv4; rw [if_neg hn]
      have e6 : fv4 o = o.toInt64 := by unfold fv4; rw [if_neg hm]
      rw [e3, e5, e6]
      unfold fv2 fv5
      have hl : (lcmpW d.toInt64 o.toInt64 < 0) ↔ d < o := by rw [lw_lt, Int64.lt_iff_toInt_lt, Int32.lt_iff_toInt_lt, c_i2l, c_i2l]
      by_cases h : d < o
      · rw [if_pos h, if_pos (hl.mpr h)]; exact e6
      · rw [if_neg h, if_neg (fun q => h (hl.mp q))]; exact e5
theorem own_one (d o : Int32) (h : ¬ fv3 d o = d) : fv3 d o = o := by
  unfold fv3 at h ⊢
  by_cases h1 : d = (-1 : Int32)
  · rw [if_pos h1] at h; exact absurd h1.symm h
  · rw [if_neg h1] at h ⊢
    by_cases h2 : o = (-1 : Int32)
    · rw [if_pos h2]; exact h2.symm
    · rw [if_neg h2] at h ⊢
      unfold fv2 at h ⊢
      by_cases h3 : d < o
      · rw [if_pos h3]
      · rw [if_neg h3] at h; exact absurd rfl h
theorem pn_0 : plainName "com/example/bounded_fetch/boundedfetch/FieldMetadataDeeperPinLaw" = true := by first | (simp [plainName, overriddenIn]; done) | decide +kernel
theorem pd_0_0 : parseMethodDescriptor "(II)I" = some ⟨[.int, .int], some .int⟩ := by decide +kernel
theorem pd_0_1 : parseMethodDescriptor "(I)J" = some ⟨[.int], some .long⟩ := by decide +kernel
theorem pd_0_2 : parseMethodDescriptor "(JJ)J" = some ⟨[.long, .long], some .long⟩ := by decide +kernel
theorem ef_0 (m : MethodId) (x0 : Int32) (x1 : Int32) (x2 : Int32) : entryFrame m #[(.int x0), (.int x1), (.int x2)] maxLocals = mkF m 0 #[.val (.int x0), .val (.int x1), .val (.int x2), .unset, .unset, .unset, .unset, .unset] [] := by first | (simp [entryFrame, mkF, argsToLocals, Value.category, maxLocals]; done) | rfl
set_option maxRecDepth 65536 in
set_option maxHeartbeats 40000000 in
theorem rm0_tfff (l : Launch) (Z : State) (a0 : Array Value) (hw : ∀ d ∈ tables_1, d.before a0 Z = true) (ws : List Jvm.Cond) (p1 : Int32) (p2 : Int32) (p3 : Int32) (h0 : Heap) (n0 : Nat) (Z0 : n0 ≤ h0.size) (hc30 : (fv3 (fv1 p1 (p3 &&& (1 : Int32))) (fv1 p2 ((p3 >>> ((1 : Int32) &&& 31)) &&& (1 : Int32)))) = (fv1 p1 (p3 &&& (1 : Int32)))) (hc65 : (lcmpW (fv4 (fv3 (fv1 p1 (p3 &&& (1 : Int32))) (fv1 p2 ((p3 >>> ((1 : Int32) &&& 31)) &&& (1 : Int32))))) (fv5 (fv4 (fv1 p1 (p3 &&& (1 : Int32)))) (fv4 (fv1 p2 ((p3 >>> ((1 : Int32) &&& 31)) &&& (1 : Int32)))))) = (0 : Int32)) (hc77 : ¬ ((1 : Int32) = (0 : Int32))) (hc82 : ¬ ((1 : Int32) = (0 : Int32))) :
    MetFree l x (head1 (Jvm.Cond.code x code maxLocals ret :: ws) room_1) (fun a U => a = #[(.int p1), (.int p2), (.int p3)] ∧ Z.Warmed39 U.vm ∧ U.heap = h0) (fun _ _ _ _ _ => True) (fun _ U o U' => ∃ v L, o = .returned v ∧ QV (.int (1 : Int32)) h0 n0 v U'.heap L ∧ FrameEnd U o U' L room_1.cells room_1.slots) := by
  refine MetFree.of_bodySF (plainFor_of_name pn_0) hisR ?_
  intro p e s m args below meth c s₁ Bd hml0 hP hK
  obtain ⟨rfl, hZ, hh⟩ := hP
  have hx := Bd.exec
  have hby := Bd.bytes
  have hml : c.maxLocals = 8 := hml0
  have hown : s.vm.findClass "com/example/bounded_fetch/boundedfetch/FieldMetadataDeeperPinLaw" = some m.cls := findClass_of_methodNamed Bd.named
  have hnm := (name_of_methodNamed Bd.named Bd.method).1
  have X0 : Stand p l e room_1 s m #[(.int p1), (.int p2), (.int p3)] below meth c s₁ [] 0 0 := Stand.of_body Bd
  have e0 : s₁.heap = h0 := by rw [← hh, Bd.state]; rfl
  have N0 := Fr.nil n0
  have pre0 : ∀ t, Steps p.tables e below (s₁.setTop (mkF m 0 #[.val (.int p1), .val (.int p2), .val (.int p3), .unset, .unset, .unset, .unset, .unset] [])) t → Steps p.tables e below (s₁.setTop (entryFrame m #[(.int p1), (.int p2), (.int p3)] maxLocals)) t := fun t k => castTop (ef_0 m p1 p2 p3) k
  -- 3. LAWS
  -- pc 4: com/example/bounded_fetch/boundedfetch/FieldMetadataDeeperPinLaw.depthOf by its contract rm1
  obtain ⟨_, _, ⟨T4, L4, k4, n4⟩, -, X4, ⟨Lc4, hQ4, l4, y4, z4⟩, st4⟩ := Jvm.LawKit.callS X0 hx (y := (⟨"com/example/bounded_fetch/boundedfetch/FieldMetadataDeeperPinLaw", "depthOf", "(II)I"⟩ : MethodName)) hown (mvT hZ (hw _ (List.mem_of_getElem? (i := 0) rfl))) (mvT hZ (hw _ (List.mem_of_getElem? (i := 1) rfl))) (mvT hZ (hw _ (List.mem_of_getElem? (i := 2) rfl))) (mvT hZ (hw _ (List.mem_of_getElem? (i := 3) rfl))) (by decide) (backOf (W := 0) (rm1 l Z a0 hw [] p1 (p3 &&& (1 : Int32)) h0 n0 Z0) hZ (hw _ (List.mem_of_getElem? (i := 3) rfl)) (hw _ (List.mem_of_getElem? (i := 2) rfl)) (by decide) (by decide)) (g := (mkF m 4 #[.val (.int p1), .val (.int p2), .val (.int p3), .unset, .unset, .unset, .unset, .unset] [(.int (p3 &&& (1 : Int32))), (.int p1)])) rfl (by rw [hml]; rfl) (argsL := [(.int p1), (.int (p3 &&& (1 : Int32)))]) (rest := []) (lenOf pd_0_0 rfl) rfl (by show 2 * 0 + _ ≤ _; exact Nat.le_of_eq rfl) (hb hby at_4) (fun _ _ => ⟨rfl, e0, (by decide : 0 + 0 ≤ _), (by decide : 0 + 0 ≤ _)⟩)
  dsimp only [Pt.U, Pt.locs, Pt.cells, Pt.slots] at X4 l4 y4 z4 st4 hQ4
  subst l4 y4 z4
  obtain ⟨rfl, N4q, eh4⟩ := hQ4
  have Zh4 : n0 ≤ T4.heap.size := by rw [eh4]; exact Z0
  have N4 := Fr.app N0 N4q
  -- pc 14: com/example/bounded_fetch/boundedfetch/FieldMetadataDeeperPinLaw.depthOf by its contract rm1
  obtain ⟨_, _, ⟨T5, L5, k5, n5⟩, -, X5, ⟨Lc5, hQ5, l5, y5, z5⟩, st5⟩ := Jvm.LawKit.callS X4 hx (y := (⟨"com/example/bounded_fetch/boundedfetch/FieldMetadataDeeperPinLaw", "depthOf", "(II)I"⟩ : MethodName)) hown (mvT hZ (hw _ (List.mem_of_getElem? (i := 0) rfl))) (mvT hZ (hw _ (List.mem_of_getElem? (i := 1) rfl))) (mvT hZ (hw _ (List.mem_of_getElem? (i := 2) rfl))) (mvT hZ (hw _ (List.mem_of_getElem? (i := 3) rfl))) (by decide) (backOf (W := 0) (rm1 l Z a0 hw [] p2 ((p3 >>> ((1 : Int32) &&& 31)) &&& (1 : Int32)) T4.heap n0 Zh4) hZ (hw _ (List.mem_of_getElem? (i := 3) rfl)) (hw _ (List.mem_of_getElem? (i := 2) rfl)) (by decide) (by decide)) (g := (mkF m 14 #[.val (.int p1), .val (.int p2), .val (.int p3), .val (.int (fv1 p1 (p3 &&& (1 : Int32)))), .unset, .unset, .unset, .unset] [(.int ((p3 >>> ((1 : Int32) &&& 31)) &&& (1 : Int32))), (.int p2)])) rfl (by rw [hml]; rfl) (argsL := [(.int p2), (.int ((p3 >>> ((1 : Int32) &&& 31)) &&& (1 : Int32)))]) (rest := []) (lenOf pd_0_0 rfl) rfl (by show 2 * 0 + _ ≤ _; exact Nat.le_of_eq rfl) (hb hby at_14) (fun _ _ => ⟨rfl, rfl, (by decide : 0 + 0 ≤ _), (by decide : 0 + 0 ≤ _)⟩)
  dsimp only [Pt.U, Pt.locs, Pt.cells, Pt.slots] at X5 l5 y5 z5 st5 hQ5
  subst l5 y5 z5
  obtain ⟨rfl, N5q, eh5⟩ := hQ5
  have Zh5 : n0 ≤ T5.heap.size := by rw [eh5]; exact Zh4
  have N5 := Fr.app N4 N5q
  -- pc 22: com/example/bounded_fetch/boundedfetch/FieldMetadata.deeper by its contract rm3
  obtain ⟨_, _, ⟨T6, L6, k6, n6⟩, -, X6, ⟨Lc6, hQ6, l6, y6, z6⟩, st6⟩ := Jvm.LawKit.callS X5 hx (y := (⟨"com/example/bounded_fetch/boundedfetch/FieldMetadata", "deeper", "(II)I"⟩ : MethodName)) hown (mvT hZ (hw _ (List.mem_of_getElem? (i := 9) rfl))) (mvT hZ (hw _ (List.mem_of_getElem? (i := 10) rfl))) (mvT hZ (hw _ (List.mem_of_getElem? (i := 11) rfl))) (mvT hZ (hw _ (List.mem_of_getElem? (i := 12) rfl))) (by decide) (backOf (W := 0) (rm3 l Z a0 hw [] (fv1 p1 (p3 &&& (1 : Int32))) (fv1 p2 ((p3 >>> ((1 : Int32) &&& 31)) &&& (1 : Int32))) T5.heap n0 Zh5) hZ (hw _ (List.mem_of_getElem? (i := 12) rfl)) (hw _ (List.mem_of_getElem? (i := 11) rfl)) (by decide) (by decide)) (g := (mkF m 22 #[.val (.int p1), .val (.int p2), .val (.int p3), .val (.int (fv1 p1 (p3 &&& (1 : Int32)))), .val (.int (fv1 p2 ((p3 >>> ((1 : Int32) &&& 31)) &&& (1 : Int32)))), .unset, .unset, .unset] [(.int (fv1 p2 ((p3 >>> ((1 : Int32) &&& 31)) &&& (1 : Int32)))), (.int (fv1 p1 (p3 &&& (1 : Int32))))])) rfl (by rw [hml]; rfl) (argsL := [(.int (fv1 p1 (p3 &&& (1 : Int32)))), (.int (fv1 p2 ((p3 >>> ((1 : Int32) &&& 31)) &&& (1 : Int32))))]) (rest := []) (lenOf pd_0_0 rfl) rfl (by show 2 * 0 + _ ≤ _; exact Nat.le_of_eq rfl) (hb hby at_22) (fun _ _ => ⟨rfl, rfl, (by decide : 0 + 0 ≤ _), (by decide : 0 + 0 ≤ _)⟩)
  dsimp only [Pt.U, Pt.locs, Pt.cells, Pt.slots] at X6 l6 y6 z6 st6 hQ6
  subst l6 y6 z6
  obtain ⟨rfl, N6q, eh6⟩ := hQ6
  have Zh6 : n0 ≤ T6.heap.size := by rw [eh6]; exact Zh5
  have N6 := Fr.app N5 N6q
  -- pc 49: com/example/bounded_fetch/boundedfetch/FieldMetadataDeeperPinLaw.rank by its contract rm4
  obtain ⟨_, _, ⟨T7, L7, k7, n7⟩, -, X7, ⟨Lc7, hQ7, l7, y7, z7⟩, st7⟩ := Jvm.LawKit.callS X6 hx (y := (⟨"com/example/bounded_fetch/boundedfetch/FieldMetadataDeeperPinLaw", "rank", "(I)J"⟩ : MethodName)) hown (mvT hZ (hw _ (List.mem_of_getElem? (i := 13) rfl))) (mvT hZ (hw _ (List.mem_of_getElem? (i := 14) rfl))) (mvT hZ (hw _ (List.mem_of_getElem? (i := 2) rfl))) (mvT hZ (hw _ (List.mem_of_getElem? (i := 15) rfl))) (by decide) (backOf (W := 0) (rm4 l Z a0 hw [] (fv3 (fv1 p1 (p3 &&& (1 : Int32))) (fv1 p2 ((p3 >>> ((1 : Int32) &&& 31)) &&& (1 : Int32)))) T6.heap n0 Zh6) hZ (hw _ (List.mem_of_getElem? (i := 15) rfl)) (hw _ (List.mem_of_getElem? (i := 2) rfl)) (by decide) (by decide)) (g := (mkF m 49 #[.val (.int p1), .val (.int p2), .val (.int p3), .val (.int (fv1 p1 (p3 &&& (1 : Int32)))), .val (.int (fv1 p2 ((p3 >>> ((1 : Int32) &&& 31)) &&& (1 : Int32)))), .val (.int (fv3 (fv1 p1 (p3 &&& (1 : Int32))) (fv1 p2 ((p3 >>> ((1 : Int32) &&& 31)) &&& (1 : Int32))))), .val (.int (1 : Int32)), .unset] [(.int (fv3 (fv1 p1 (p3 &&& (1 : Int32))) (fv1 p2 ((p3 >>> ((1 : Int32) &&& 31)) &&& (1 : Int32)))))])) rfl (by rw [hml]; rfl) (argsL := [(.int (fv3 (fv1 p1 (p3 &&& (1 : Int32))) (fv1 p2 ((p3 >>> ((1 : Int32) &&& 31)) &&& (1 : Int32)))))]) (rest := []) (lenOf pd_0_1 rfl) rfl (by show 2 * 0 + _ ≤ _; exact Nat.le_of_eq rfl) (hb hby at_49) (fun _ _ => ⟨rfl, rfl, (by decide : 0 + 0 ≤ _), (by decide : 0 + 0 ≤ _)⟩)
  dsimp only [Pt.U, Pt.locs, Pt.cells, Pt.slots] at X7 l7 y7 z7 st7 hQ7
  subst l7 y7 z7
  obtain ⟨rfl, N7q, eh7⟩ := hQ7
  have Zh7 : n0 ≤ T7.heap.size := by rw [eh7]; exact Zh6
  have N7 := Fr.app N6 N7q
  -- pc 53: com/example/bounded_fetch/boundedfetch/FieldMetadataDeeperPinLaw.rank by its contract rm4
  obtain ⟨_, _, ⟨T8, L8, k8, n8⟩, -, X8, ⟨Lc8, hQ8, l8, y8, z8⟩, st8⟩ := Jvm.LawKit.callS X7 hx (y := (⟨"com/example/bounded_fetch/boundedfetch/FieldMetadataDeeperPinLaw", "rank", "(I)J"⟩ : MethodName)) hown (mvT hZ (hw _ (List.mem_of_getElem? (i := 13) rfl))) (mvT hZ (hw _ (List.mem_of_getElem? (i := 14) rfl))) (mvT hZ (hw _ (List.mem_of_getElem? (i := 2) rfl))) (mvT hZ (hw _ (List.mem_of_getElem? (i := 15) rfl))) (by decide) (backOf (W := 2) (rm4 l Z a0 hw [] (fv1 p1 (p3 &&& (1 : Int32))) T7.heap n0 Zh7) hZ (hw _ (List.mem_of_getElem? (i := 15) rfl)) (hw _ (List.mem_of_getElem? (i := 2) rfl)) (by decide) (by decide)) (g := (mkF m 53 #[.val (.int p1), .val (.int p2), .val (.int p3), .val (.int (fv1 p1 (p3 &&& (1 : Int32)))), .val (.int (fv1 p2 ((p3 >>> ((1 : Int32) &&& 31)) &&& (1 : Int32)))), .val (.int (fv3 (fv1 p1 (p3 &&& (1 : Int32))) (fv1 p2 ((p3 >>> ((1 : Int32) &&& 31)) &&& (1 : Int32))))), .val (.int (1 : Int32)), .unset] [(.int (fv1 p1 (p3 &&& (1 : Int32)))), (.long (fv4 (fv3 (fv1 p1 (p3 &&& (1 : Int32))) (fv1 p2 ((p3 >>> ((1 : Int32) &&& 31)) &&& (1 : Int32))))))])) rfl (by rw [hml]; rfl) (argsL := [(.int (fv1 p1 (p3 &&& (1 : Int32))))]) (rest := [(.long (fv4 (fv3 (fv1 p1 (p3 &&& (1 : Int32))) (fv1 p2 ((p3 >>> ((1 : Int32) &&& 31)) &&& (1 : Int32))))))]) (lenOf pd_0_1 rfl) rfl (by show 2 * 0 + _ ≤ _; exact Nat.le_of_eq rfl) (hb hby at_53) (fun _ _ => ⟨rfl, rfl, (by decide : 0 + 0 ≤ _), (by decide : 0 + 0 ≤ _)⟩)
  dsimp only [Pt.U, Pt.locs, Pt.cells, Pt.slots] at X8 l8 y8 z8 st8 hQ8
  subst l8 y8 z8
  obtain ⟨rfl, N8q, eh8⟩ := hQ8
  have Zh8 : n0 ≤ T8.heap.size := by rw [eh8]; exact Zh7
  have N8 := Fr.app N7 N8q
  -- pc 58: com/example/bounded_fetch/boundedfetch/FieldMetadataDeeperPinLaw.rank by its contract rm4
  obtain ⟨_, _, ⟨T9, L9, k9, n9⟩, -, X9, ⟨Lc9, hQ9, l9, y9, z9⟩, st9⟩ := Jvm.LawKit.callS X8 hx (y := (⟨"com/example/bounded_fetch/boundedfetch/FieldMetadataDeeperPinLaw", "rank", "(I)J"⟩ : MethodName)) hown (mvT hZ (hw _ (List.mem_of_getElem? (i := 13) rfl))) (mvT hZ (hw _ (List.mem_of_getElem? (i := 14) rfl))) (mvT hZ (hw _ (List.mem_of_getElem? (i := 2) rfl))) (mvT hZ (hw _ (List.mem_of_getElem? (i := 15) rfl))) (by decide) (backOf (W := 4) (rm4 l Z a0 hw [] (fv1 p2 ((p3 >>> ((1 : Int32) &&& 31)) &&& (1 : Int32))) T8.heap n0 Zh8) hZ (hw _ (List.mem_of_getElem? (i := 15) rfl)) (hw _ (List.mem_of_getElem? (i := 2) rfl)) (by decide) (by decide)) (g := (mkF m 58 #[.val (.int p1), .val (.int p2), .val (.int p3), .val (.int (fv1 p1 (p3 &&& (1 : Int32)))), .val (.int (fv1 p2 ((p3 >>> ((1 : Int32) &&& 31)) &&& (1 : Int32)))), .val (.int (fv3 (fv1 p1 (p3 &&& (1 : Int32))) (fv1 p2 ((p3 >>> ((1 : Int32) &&& 31)) &&& (1 : Int32))))), .val (.int (1 : Int32)), .unset] [(.int (fv1 p2 ((p3 >>> ((1 : Int32) &&& 31)) &&& (1 : Int32)))), (.long (fv4 (fv1 p1 (p3 &&& (1 : Int32))))), (.long (fv4 (fv3 (fv1 p1 (p3 &&& (1 : Int32))) (fv1 p2 ((p3 >>> ((1 : Int32) &&& 31)) &&& (1 : Int32))))))])) rfl (by rw [hml]; rfl) (argsL := [(.int (fv1 p2 ((p3 >>> ((1 : Int32) &&& 31)) &&& (1 : Int32))))]) (rest := [(.long (fv4 (fv1 p1 (p3 &&& (1 : Int32))))), (.long (fv4 (fv3 (fv1 p1 (p3 &&& (1 : Int32))) (fv1 p2 ((p3 >>> ((1 : Int32) &&& 31)) &&& (1 : Int32))))))]) (lenOf pd_0_1 rfl) rfl (by show 2 * 0 + _ ≤ _; exact Nat.le_of_eq rfl) (hb hby at_58) (fun _ _ => ⟨rfl, rfl, (by decide : 0 + 0 ≤ _), (by decide : 0 + 0 ≤ _)⟩)
  dsimp only [Pt.U, Pt.locs, Pt.cells, Pt.slots] at X9 l9 y9 z9 st9 hQ9
  subst l9 y9 z9
  obtain ⟨rfl, N9q, eh9⟩ := hQ9
  have Zh9 : n0 ≤ T9.heap.size := by rw [eh9]; exact Zh8
  have N9 := Fr.app N8 N9q
  -- pc 61: java/lang/Math.max by its contract rm5
  obtain ⟨_, _, ⟨T10, L10, k10, n10⟩, -, X10, ⟨Lc10, hQ10, l10, y10, z10⟩, st10⟩ := Jvm.LawKit.callS X9 hx (y := (⟨"java/lang/Math", "max", "(JJ)J"⟩ : MethodName)) hown (mvT hZ (hw _ (List.mem_of_getElem? (i := 17) rfl))) (mvT hZ (hw _ (List.mem_of_getElem? (i := 18) rfl))) (mvT hZ (hw _ (List.mem_of_getElem? (i := 7) rfl))) (mvT hZ (hw _ (List.mem_of_getElem? (i := 19) rfl))) (by decide) (backOf (W := 2) (rm5 l Z a0 hw [] (fv4 (fv1 p1 (p3 &&& (1 : Int32)))) (fv4 (fv1 p2 ((p3 >>> ((1 : Int32) &&& 31)) &&& (1 : Int32)))) T9.heap n0 Zh9) hZ (hw _ (List.mem_of_getElem? (i := 19) rfl)) (hw _ (List.mem_of_getElem? (i := 7) rfl)) (by decide) (by decide)) (g := (mkF m 61 #[.val (.int p1), .val (.int p2), .val (.int p3), .val (.int (fv1 p1 (p3 &&& (1 : Int32)))), .val (.int (fv1 p2 ((p3 >>> ((1 : Int32) &&& 31)) &&& (1 : Int32)))), .val (.int (fv3 (fv1 p1 (p3 &&& (1 : Int32))) (fv1 p2 ((p3 >>> ((1 : Int32) &&& 31)) &&& (1 : Int32))))), .val (.int (1 : Int32)), .unset] [(.long (fv4 (fv1 p2 ((p3 >>> ((1 : Int32) &&& 31)) &&& (1 : Int32))))), (.long (fv4 (fv1 p1 (p3 &&& (1 : Int32))))), (.long (fv4 (fv3 (fv1 p1 (p3 &&& (1 : Int32))) (fv1 p2 ((p3 >>> ((1 : Int32) &&& 31)) &&& (1 : Int32))))))])) rfl (by rw [hml]; rfl) (argsL := [(.long (fv4 (fv1 p1 (p3 &&& (1 : Int32))))), (.long (fv4 (fv1 p2 ((p3 >>> ((1 : Int32) &&& 31)) &&& (1 : Int32)))))]) (rest := [(.long (fv4 (fv3 (fv1 p1 (p3 &&& (1 : Int32))) (fv1 p2 ((p3 >>> ((1 : Int32) &&& 31)) &&& (1 : Int32))))))]) (lenOf pd_0_2 rfl) rfl (by show 2 * 0 + _ ≤ _; exact Nat.le_of_eq rfl) (hb hby at_61) (fun _ _ => ⟨rfl, rfl, (by decide : 0 + 0 ≤ _), (by decide : 0 + 0 ≤ _)⟩)
  dsimp only [Pt.U, Pt.locs, Pt.cells, Pt.slots] at X10 l10 y10 z10 st10 hQ10
  subst l10 y10 z10
  obtain ⟨rfl, N10q, eh10⟩ := hQ10
  have Zh10 : n0 ≤ T10.heap.size := by rw [eh10]; exact Zh9
  have N10 := Fr.app N9 N10q
  obtain ⟨fs, hr, hrun, hended, hW, hsame⟩ := X10.leave (v := some (.int (1 : Int32))) (fun h => by rw [Bd.returns] at h; cases h)
  refine ⟨_, _, pre0 _ ?_, hrun, hended, _, _, rfl, ?_, ⟨_, rfl⟩, hW, hsame.mono (by decide) (by decide)⟩
  -- 4. STEPS
  · show Steps p.tables e below (s₁.setTop (mkF m 0 #[.val (.int p1), .val (.int p2), .val (.int p3), .unset, .unset, .unset, .unset, .unset] [])) _
    refine XS.iloadN X0.here hx rfl (hb hby at_0) rfl ?_
    show Steps p.tables e below (s₁.setTop (mkF m 1 #[.val (.int p1), .val (.int p2), .val (.int p3), .unset, .unset, .unset, .unset, .unset] [(.int p1)])) _
    refine XS.iloadN X0.here hx rfl (hb hby at_1) rfl ?_
    show Steps p.tables e below (s₁.setTop (mkF m 2 #[.val (.int p1), .val (.int p2), .val (.int p3), .unset, .unset, .unset, .unset, .unset] [(.int p3), (.int p1)])) _
    refine XS.iconst X0.here hx rfl (hb hby at_2) ?_
    show Steps p.tables e below (s₁.setTop (mkF m 3 #[.val (.int p1), .val (.int p2), .val (.int p3), .unset, .unset, .unset, .unset, .unset] [(.int (1 : Int32)), (.int p3), (.int p1)])) _
    refine XS.iand X0.here hx rfl (hb hby at_3) rfl ?_
    show Steps p.tables e below (s₁.setTop (mkF m 4 #[.val (.int p1), .val (.int p2), .val (.int p3), .unset, .unset, .unset, .unset, .unset] [(.int (p3 &&& (1 : Int32))), (.int p1)])) _
    refine st4 _ ?_
    show Steps p.tables e below (T4.setTop (mkF m 7 #[.val (.int p1), .val (.int p2), .val (.int p3), .unset, .unset, .unset, .unset, .unset] [(.int (fv1 p1 (p3 &&& (1 : Int32))))])) _
    refine XS.istoreN X4.here hx rfl (hb hby at_7) rfl (l' := #[.val (.int p1), .val (.int p2), .val (.int p3), .val (.int (fv1 p1 (p3 &&& (1 : Int32)))), .unset, .unset, .unset, .unset]) rfl ?_
    show Steps p.tables e below (T4.setTop (mkF m 8 #[.val (.int p1), .val (.int p2), .val (.int p3), .val (.int (fv1 p1 (p3 &&& (1 : Int32)))), .unset, .unset, .unset, .unset] [])) _
    refine XS.iloadN X4.here hx rfl (hb hby at_8) rfl ?_
    show Steps p.tables e below (T4.setTop (mkF m 9 #[.val (.int p1), .val (.int p2), .val (.int p3), .val (.int (fv1 p1 (p3 &&& (1 : Int32)))), .unset, .unset, .unset, .unset] [(.int p2)])) _
    refine XS.iloadN X4.here hx rfl (hb hby at_9) rfl ?_
    show Steps p.tables e below (T4.setTop (mkF m 10 #[.val (.int p1), .val (.int p2), .val (.int p3), .val (.int (fv1 p1 (p3 &&& (1 : Int32)))), .unset, .unset, .unset, .unset] [(.int p3), (.int p2)])) _
    refine XS.iconst X4.here hx rfl (hb hby at_10) ?_
    show Steps p.tables e below (T4.setTop (mkF m 11 #[.val (.int p1), .val (.int p2), .val (.int p3), .val (.int (fv1 p1 (p3 &&& (1 : Int32)))), .unset, .unset, .unset, .unset] [(.int (1 : Int32)), (.int p3), (.int p2)])) _
    refine XS.ishr X4.here hx rfl (hb hby at_11) rfl ?_
    show Steps p.tables e below (T4.setTop (mkF m 12 #[.val (.int p1), .val (.int p2), .val (.int p3), .val (.int (fv1 p1 (p3 &&& (1 : Int32)))), .unset, .unset, .unset, .unset] [(.int (p3 >>> ((1 : Int32) &&& 31))), (.int p2)])) _
    refine XS.iconst X4.here hx rfl (hb hby at_12) ?_
    show Steps p.tables e below (T4.setTop (mkF m 13 #[.val (.int p1), .val (.int p2), .val (.int p3), .val (.int (fv1 p1 (p3 &&& (1 : Int32)))), .unset, .unset, .unset, .unset] [(.int (1 : Int32)), (.int (p3 >>> ((1 : Int32) &&& 31))), (.int p2)])) _
    refine XS.iand X4.here hx rfl (hb hby at_13) rfl ?_
    show Steps p.tables e below (T4.setTop (mkF m 14 #[.val (.int p1), .val (.int p2), .val (.int p3), .val (.int (fv1 p1 (p3 &&& (1 : Int32)))), .unset, .unset, .unset, .unset] [(.int ((p3 >>> ((1 : Int32) &&& 31)) &&& (1 : Int32))), (.int p2)])) _
    refine st5 _ ?_
    show Steps p.tables e below (T5.setTop (mkF m 17 #[.val (.int p1), .val (.int p2), .val (.int p3), .val (.int (fv1 p1 (p3 &&& (1 : Int32)))), .unset, .unset, .unset, .unset] [(.int (fv1 p2 ((p3 >>> ((1 : Int32) &&& 31)) &&& (1 : Int32))))])) _
    refine XS.istore X5.here hx rfl (hb hby at_17) rfl (l' := #[.val (.int p1), .val (.int p2), .val (.int p3), .val (.int (fv1 p1 (p3 &&& (1 : Int32)))), .val (.int (fv1 p2 ((p3 >>> ((1 : Int32) &&& 31)) &&& (1 : Int32)))), .unset, .unset, .unset]) rfl ?_
    show Steps p.tables e below (T5.setTop (mkF m 19 #[.val (.int p1), .val (.int p2), .val (.int p3), .val (.int (fv1 p1 (p3 &&& (1 : Int32)))), .val (.int (fv1 p2 ((p3 >>> ((1 : Int32) &&& 31)) &&& (1 : Int32)))), .unset, .unset, .unset] [])) _
    refine XS.iloadN X5.here hx rfl (hb hby at_19) rfl ?_
    show Steps p.tables e below (T5.setTop (mkF m 20 #[.val (.int p1), .val (.int p2), .val (.int p3), .val (.int (fv1 p1 (p3 &&& (1 : Int32)))), .val (.int (fv1 p2 ((p3 >>> ((1 : Int32) &&& 31)) &&& (1 : Int32)))), .unset, .unset, .unset] [(.int (fv1 p1 (p3 &&& (1 : Int32))))])) _
    refine XS.iload X5.here hx rfl (hb hby at_20) rfl ?_
    show Steps p.tables e below (T5.setTop (mkF m 22 #[.val (.int p1), .val (.int p2), .val (.int p3), .val (.int (fv1 p1 (p3 &&& (1 : Int32)))), .val (.int (fv1 p2 ((p3 >>> ((1 : Int32) &&& 31)) &&& (1 : Int32)))), .unset, .unset, .unset] [(.int (fv1 p2 ((p3 >>> ((1 : Int32) &&& 31)) &&& (1 : Int32)))), (.int (fv1 p1 (p3 &&& (1 : Int32))))])) _
    refine st6 _ ?_
    show Steps p.tables e below (T6.setTop (mkF m 25 #[.val (.int p1), .val (.int p2), .val (.int p3), .val (.int (fv1 p1 (p3 &&& (1 : Int32)))), .val (.int (fv1 p2 ((p3 >>> ((1 : Int32) &&& 31)) &&& (1 : Int32)))), .unset, .unset, .unset] [(.int (fv3 (fv1 p1 (p3 &&& (1 : Int32))) (fv1 p2 ((p3 >>> ((1 : Int32) &&& 31)) &&& (1 : Int32)))))])) _
    refine XS.istore X6.here hx rfl (hb hby at_25) rfl (l' := #[.val (.int p1), .val (.int p2), .val (.int p3), .val (.int (fv1 p1 (p3 &&& (1 : Int32)))), .val (.int (fv1 p2 ((p3 >>> ((1 : Int32) &&& 31)) &&& (1 : Int32)))), .val (.int (fv3 (fv1 p1 (p3 &&& (1 : Int32))) (fv1 p2 ((p3 >>> ((1 : Int32) &&& 31)) &&& (1 : Int32))))), .unset, .unset]) rfl ?_
    show Steps p.tables e below (T6.setTop (mkF m 27 #[.val (.int p1), .val (.int p2), .val (.int p3), .val (.int (fv1 p1 (p3 &&& (1 : Int32)))), .val (.int (fv1 p2 ((p3 >>> ((1 : Int32) &&& 31)) &&& (1 : Int32)))), .val (.int (fv3 (fv1 p1 (p3 &&& (1 : Int32))) (fv1 p2 ((p3 >>> ((1 : Int32) &&& 31)) &&& (1 : Int32))))), .unset, .unset] [])) _
    refine XS.iload X6.here hx rfl (hb hby at_27) rfl ?_
    show Steps p.tables e below (T6.setTop (mkF m 29 #[.val (.int p1), .val (.int p2), .val (.int p3), .val (.int (fv1 p1 (p3 &&& (1 : Int32)))), .val (.int (fv1 p2 ((p3 >>> ((1 : Int32) &&& 31)) &&& (1 : Int32)))), .val (.int (fv3 (fv1 p1 (p3 &&& (1 : Int32))) (fv1 p2 ((p3 >>> ((1 : Int32) &&& 31)) &&& (1 : Int32))))), .unset, .unset] [(.int (fv3 (fv1 p1 (p3 &&& (1 : Int32))) (fv1 p2 ((p3 >>> ((1 : Int32) &&& 31)) &&& (1 : Int32)))))])) _
    refine XS.iloadN X6.here hx rfl (hb hby at_29) rfl ?_
    show Steps p.tables e below (T6.setTop (mkF m 30 #[.val (.int p1), .val (.int p2), .val (.int p3), .val (.int (fv1 p1 (p3 &&& (1 : Int32)))), .val (.int (fv1 p2 ((p3 >>> ((1 : Int32) &&& 31)) &&& (1 : Int32)))), .val (.int (fv3 (fv1 p1 (p3 &&& (1 : Int32))) (fv1 p2 ((p3 >>> ((1 : Int32) &&& 31)) &&& (1 : Int32))))), .unset, .unset] [(.int (fv1 p1 (p3 &&& (1 : Int32)))), (.int (fv3 (fv1 p1 (p3 &&& (1 : Int32))) (fv1 p2 ((p3 >>> ((1 : Int32) &&& 31)) &&& (1 : Int32)))))])) _
    refine XS.icmpYes X6.here hx rfl (pc0 := 30) (pc' := 40) rfl (hb hby at_30) rfl (teq hc30).1 (by decide) (by decide) ?_
    show Steps p.tables e below (T6.setTop (mkF m 40 #[.val (.int p1), .val (.int p2), .val (.int p3), .val (.int (fv1 p1 (p3 &&& (1 : Int32)))), .val (.int (fv1 p2 ((p3 >>> ((1 : Int32) &&& 31)) &&& (1 : Int32)))), .val (.int (fv3 (fv1 p1 (p3 &&& (1 : Int32))) (fv1 p2 ((p3 >>> ((1 : Int32) &&& 31)) &&& (1 : Int32))))), .unset, .unset] [])) _
    refine XS.iconst X6.here hx rfl (hb hby at_40) ?_
    show Steps p.tables e below (T6.setTop (mkF m 41 #[.val (.int p1), .val (.int p2), .val (.int p3), .val (.int (fv1 p1 (p3 &&& (1 : Int32)))), .val (.int (fv1 p2 ((p3 >>> ((1 : Int32) &&& 31)) &&& (1 : Int32)))), .val (.int (fv3 (fv1 p1 (p3 &&& (1 : Int32))) (fv1 p2 ((p3 >>> ((1 : Int32) &&& 31)) &&& (1 : Int32))))), .unset, .unset] [(.int (1 : Int32))])) _
    refine XS.goto X6.here hx rfl (pc0 := 41) (pc' := 45) rfl (hb hby at_41) (by decide) (by decide) ?_
    show Steps p.tables e below (T6.setTop (mkF m 45 #[.val (.int p1), .val (.int p2), .val (.int p3), .val (.int (fv1 p1 (p3 &&& (1 : Int32)))), .val (.int (fv1 p2 ((p3 >>> ((1 : Int32) &&& 31)) &&& (1 : Int32)))), .val (.int (fv3 (fv1 p1 (p3 &&& (1 : Int32))) (fv1 p2 ((p3 >>> ((1 : Int32) &&& 31)) &&& (1 : Int32))))), .unset, .unset] [(.int (1 : Int32))])) _
    refine XS.istore X6.here hx rfl (hb hby at_45) rfl (l' := #[.val (.int p1), .val (.int p2), .val (.int p3), .val (.int (fv1 p1 (p3 &&& (1 : Int32)))), .val (.int (fv1 p2 ((p3 >>> ((1 : Int32) &&& 31)) &&& (1 : Int32)))), .val (.int (fv3 (fv1 p1 (p3 &&& (1 : Int32))) (fv1 p2 ((p3 >>> ((1 : Int32) &&& 31)) &&& (1 : Int32))))), .val (.int (1 : Int32)), .unset]) rfl ?_
    show Steps p.tables e below (T6.setTop (mkF m 47 #[.val (.int p1), .val (.int p2), .val (.int p3), .val (.int (fv1 p1 (p3 &&& (1 : Int32)))), .val (.int (fv1 p2 ((p3 >>> ((1 : Int32) &&& 31)) &&& (1 : Int32)))), .val (.int (fv3 (fv1 p1 (p3 &&& (1 : Int32))) (fv1 p2 ((p3 >>> ((1 : Int32) &&& 31)) &&& (1 : Int32))))), .val (.int (1 : Int32)), .unset] [])) _
    refine XS.iload X6.here hx rfl (hb hby at_47) rfl ?_
    show Steps p.tables e below (T6.setTop (mkF m 49 #[.val (.int p1), .val (.int p2), .val (.int p3), .val (.int (fv1 p1 (p3 &&& (1 : Int32)))), .val (.int (fv1 p2 ((p3 >>> ((1 : Int32) &&& 31)) &&& (1 : Int32)))), .val (.int (fv3 (fv1 p1 (p3 &&& (1 : Int32))) (fv1 p2 ((p3 >>> ((1 : Int32) &&& 31)) &&& (1 : Int32))))), .val (.int (1 : Int32)), .unset] [(.int (fv3 (fv1 p1 (p3 &&& (1 : Int32))) (fv1 p2 ((p3 >>> ((1 : Int32) &&& 31)) &&& (1 : Int32)))))])) _
    refine st7 _ ?_
    show Steps p.tables e below (T7.setTop (mkF m 52 #[.val (.int p1), .val (.int p2), .val (.int p3), .val (.int (fv1 p1 (p3 &&& (1 : Int32)))), .val (.int (fv1 p2 ((p3 >>> ((1 : Int32) &&& 31)) &&& (1 : Int32)))), .val (.int (fv3 (fv1 p1 (p3 &&& (1 : Int32))) (fv1 p2 ((p3 >>> ((1 : Int32) &&& 31)) &&& (1 : Int32))))), .val (.int (1 : Int32)), .unset] [(.long (fv4 (fv3 (fv1 p1 (p3 &&& (1 : Int32))) (fv1 p2 ((p3 >>> ((1 : Int32) &&& 31)) &&& (1 : Int32))))))])) _
    refine XS.iloadN X7.here hx rfl (hb hby at_52) rfl ?_
    show Steps p.tables e below (T7.setTop (mkF m 53 #[.val (.int p1), .val (.int p2), .val (.int p3), .val (.int (fv1 p1 (p3 &&& (1 : Int32)))), .val (.int (fv1 p2 ((p3 >>> ((1 : Int32) &&& 31)) &&& (1 : Int32)))), .val (.int (fv3 (fv1 p1 (p3 &&& (1 : Int32))) (fv1 p2 ((p3 >>> ((1 : Int32) &&& 31)) &&& (1 : Int32))))), .val (.int (1 : Int32)), .unset] [(.int (fv1 p1 (p3 &&& (1 : Int32)))), (.long (fv4 (fv3 (fv1 p1 (p3 &&& (1 : Int32))) (fv1 p2 ((p3 >>> ((1 : Int32) &&& 31)) &&& (1 : Int32))))))])) _
    refine st8 _ ?_
    show Steps p.tables e below (T8.setTop (mkF m 56 #[.val (.int p1), .val (.int p2), .val (.int p3), .val (.int (fv1 p1 (p3 &&& (1 : Int32)))), .val (.int (fv1 p2 ((p3 >>> ((1 : Int32) &&& 31)) &&& (1 : Int32)))), .val (.int (fv3 (fv1 p1 (p3 &&& (1 : Int32))) (fv1 p2 ((p3 >>> ((1 : Int32) &&& 31)) &&& (1 : Int32))))), .val (.int (1 : Int32)), .unset] [(.long (fv4 (fv1 p1 (p3 &&& (1 : Int32))))), (.long (fv4 (fv3 (fv1 p1 (p3 &&& (1 : Int32))) (fv1 p2 ((p3 >>> ((1 : Int32) &&& 31)) &&& (1 : Int32))))))])) _
    refine XS.iload X8.here hx rfl (hb hby at_56) rfl ?_
    show Steps p.tables e below (T8.setTop (mkF m 58 #[.val (.int p1), .val (.int p2), .val (.int p3), .val (.int (fv1 p1 (p3 &&& (1 : Int32)))), .val (.int (fv1 p2 ((p3 >>> ((1 : Int32) &&& 31)) &&& (1 : Int32)))), .val (.int (fv3 (fv1 p1 (p3 &&& (1 : Int32))) (fv1 p2 ((p3 >>> ((1 : Int32) &&& 31)) &&& (1 : Int32))))), .val (.int (1 : Int32)), .unset] [(.int (fv1 p2 ((p3 >>> ((1 : Int32) &&& 31)) &&& (1 : Int32)))), (.long (fv4 (fv1 p1 (p3 &&& (1 : Int32))))), (.long (fv4 (fv3 (fv1 p1 (p3 &&& (1 : Int32))) (fv1 p2 ((p3 >>> ((1 : Int32) &&& 31)) &&& (1 : Int32))))))])) _
    refine st9 _ ?_
    show Steps p.tables e below (T9.setTop (mkF m 61 #[.val (.int p1), .val (.int p2), .val (.int p3), .val (.int (fv1 p1 (p3 &&& (1 : Int32)))), .val (.int (fv1 p2 ((p3 >>> ((1 : Int32) &&& 31)) &&& (1 : Int32)))), .val (.int (fv3 (fv1 p1 (p3 &&& (1 : Int32))) (fv1 p2 ((p3 >>> ((1 : Int32) &&& 31)) &&& (1 : Int32))))), .val (.int (1 : Int32)), .unset] [(.long (fv4 (fv1 p2 ((p3 >>> ((1 : Int32) &&& 31)) &&& (1 : Int32))))), (.long (fv4 (fv1 p1 (p3 &&& (1 : Int32))))), (.long (fv4 (fv3 (fv1 p1 (p3 &&& (1 : Int32))) (fv1 p2 ((p3 >>> ((1 : Int32) &&& 31)) &&& (1 : Int32))))))])) _
    refine st10 _ ?_
    show Steps p.tables e below (T10.setTop (mkF m 64 #[.val (.int p1), .val (.int p2), .val (.int p3), .val (.int (fv1 p1 (p3 &&& (1 : Int32)))), .val (.int (fv1 p2 ((p3 >>> ((1 : Int32) &&& 31)) &&& (1 : Int32)))), .val (.int (fv3 (fv1 p1 (p3 &&& (1 : Int32))) (fv1 p2 ((p3 >>> ((1 : Int32) &&& 31)) &&& (1 : Int32))))), .val (.int (1 : Int32)), .unset] [(.long (fv5 (fv4 (fv1 p1 (p3 &&& (1 : Int32)))) (fv4 (fv1 p2 ((p3 >>> ((1 : Int32) &&& 31)) &&& (1 : Int32)))))), (.long (fv4 (fv3 (fv1 p1 (p3 &&& (1 : Int32))) (fv1 p2 ((p3 >>> ((1 : Int32) &&& 31)) &&& (1 : Int32))))))])) _
    refine XS.lcmp X10.here hx rfl (hb hby at_64) rfl ?_
    show Steps p.tables e below (T10.setTop (mkF m 65 #[.val (.int p1), .val (.int p2), .val (.int p3), .val (.int (fv1 p1 (p3 &&& (1 : Int32)))), .val (.int (fv1 p2 ((p3 >>> ((1 : Int32) &&& 31)) &&& (1 : Int32)))), .val (.int (fv3 (fv1 p1 (p3 &&& (1 : Int32))) (fv1 p2 ((p3 >>> ((1 : Int32) &&& 31)) &&& (1 : Int32))))), .val (.int (1 : Int32)), .unset] [(.int (lcmpW (fv4 (fv3 (fv1 p1 (p3 &&& (1 : Int32))) (fv1 p2 ((p3 >>> ((1 : Int32) &&& 31)) &&& (1 : Int32))))) (fv5 (fv4 (fv1 p1 (p3 &&& (1 : Int32)))) (fv4 (fv1 p2 ((p3 >>> ((1 : Int32) &&& 31)) &&& (1 : Int32)))))))])) _
    refine XS.ifNo X10.here hx rfl (hb hby at_65) rfl ((if0 _ _).trans (teq hc65).2) ?_
    show Steps p.tables e below (T10.setTop (mkF m 68 #[.val (.int p1), .val (.int p2), .val (.int p3), .val (.int (fv1 p1 (p3 &&& (1 : Int32)))), .val (.int (fv1 p2 ((p3 >>> ((1 : Int32) &&& 31)) &&& (1 : Int32)))), .val (.int (fv3 (fv1 p1 (p3 &&& (1 : Int32))) (fv1 p2 ((p3 >>> ((1 : Int32) &&& 31)) &&& (1 : Int32))))), .val (.int (1 : Int32)), .unset] [])) _
    refine XS.iconst X10.here hx rfl (hb hby at_68) ?_
    show Steps p.tables e below (T10.setTop (mkF m 69 #[.val (.int p1), .val (.int p2), .val (.int p3), .val (.int (fv1 p1 (p3 &&& (1 : Int32)))), .val (.int (fv1 p2 ((p3 >>> ((1 : Int32) &&& 31)) &&& (1 : Int32)))), .val (.int (fv3 (fv1 p1 (p3 &&& (1 : Int32))) (fv1 p2 ((p3 >>> ((1 : Int32) &&& 31)) &&& (1 : Int32))))), .val (.int (1 : Int32)), .unset] [(.int (1 : Int32))])) _
    refine XS.goto X10.here hx rfl (pc0 := 69) (pc' := 73) rfl (hb hby at_69) (by decide) (by decide) ?_
    show Steps p.tables e below (T10.setTop (mkF m 73 #[.val (.int p1), .val (.int p2), .val (.int p3), .val (.int (fv1 p1 (p3 &&& (1 : Int32)))), .val (.int (fv1 p2 ((p3 >>> ((1 : Int32) &&& 31)) &&& (1 : Int32)))), .val (.int (fv3 (fv1 p1 (p3 &&& (1 : Int32))) (fv1 p2 ((p3 >>> ((1 : Int32) &&& 31)) &&& (1 : Int32))))), .val (.int (1 : Int32)), .unset] [(.int (1 : Int32))])) _
    refine XS.istore X10.here hx rfl (hb hby at_73) rfl (l' := #[.val (.int p1), .val (.int p2), .val (.int p3), .val (.int (fv1 p1 (p3 &&& (1 : Int32)))), .val (.int (fv1 p2 ((p3 >>> ((1 : Int32) &&& 31)) &&& (1 : Int32)))), .val (.int (fv3 (fv1 p1 (p3 &&& (1 : Int32))) (fv1 p2 ((p3 >>> ((1 : Int32) &&& 31)) &&& (1 : Int32))))), .val (.int (1 : Int32)), .val (.int (1 : Int32))]) rfl ?_
    show Steps p.tables e below (T10.setTop (mkF m 75 #[.val (.int p1), .val (.int p2), .val (.int p3), .val (.int (fv1 p1 (p3 &&& (1 : Int32)))), .val (.int (fv1 p2 ((p3 >>> ((1 : Int32) &&& 31)) &&& (1 : Int32)))), .val (.int (fv3 (fv1 p1 (p3 &&& (1 : Int32))) (fv1 p2 ((p3 >>> ((1 : Int32) &&& 31)) &&& (1 : Int32))))), .val (.int (1 : Int32)), .val (.int (1 : Int32))] [])) _
    refine XS.iload X10.here hx rfl (hb hby at_75) rfl ?_
    show Steps p.tables e below (T10.setTop (mkF m 77 #[.val (.int p1), .val (.int p2), .val (.int p3), .val (.int (fv1 p1 (p3 &&& (1 : Int32)))), .val (.int (fv1 p2 ((p3 >>> ((1 : Int32) &&& 31)) &&& (1 : Int32)))), .val (.int (fv3 (fv1 p1 (p3 &&& (1 : Int32))) (fv1 p2 ((p3 >>> ((1 : Int32) &&& 31)) &&& (1 : Int32))))), .val (.int (1 : Int32)), .val (.int (1 : Int32))] [(.int (1 : Int32))])) _
    refine XS.ifNo X10.here hx rfl (hb hby at_77) rfl ((if0 _ _).trans (feq hc77).1) ?_
    show Steps p.tables e below (T10.setTop (mkF m 80 #[.val (.int p1), .val (.int p2), .val (.int p3), .val (.int (fv1 p1 (p3 &&& (1 : Int32)))), .val (.int (fv1 p2 ((p3 >>> ((1 : Int32) &&& 31)) &&& (1 : Int32)))), .val (.int (fv3 (fv1 p1 (p3 &&& (1 : Int32))) (fv1 p2 ((p3 >>> ((1 : Int32) &&& 31)) &&& (1 : Int32))))), .val (.int (1 : Int32)), .val (.int (1 : Int32))] [])) _
    refine XS.iload X10.here hx rfl (hb hby at_80) rfl ?_
    show Steps p.tables e below (T10.setTop (mkF m 82 #[.val (.int p1), .val (.int p2), .val (.int p3), .val (.int (fv1 p1 (p3 &&& (1 : Int32)))), .val (.int (fv1 p2 ((p3 >>> ((1 : Int32) &&& 31)) &&& (1 : Int32)))), .val (.int (fv3 (fv1 p1 (p3 &&& (1 : Int32))) (fv1 p2 ((p3 >>> ((1 : Int32) &&& 31)) &&& (1 : Int32))))), .val (.int (1 : Int32)), .val (.int (1 : Int32))] [(.int (1 : Int32))])) _
    refine XS.ifNo X10.here hx rfl (hb hby at_82) rfl ((if0 _ _).trans (feq hc82).1) ?_
    show Steps p.tables e below (T10.setTop (mkF m 85 #[.val (.int p1), .val (.int p2), .val (.int p3), .val (.int (fv1 p1 (p3 &&& (1 : Int32)))), .val (.int (fv1 p2 ((p3 >>> ((1 : Int32) &&& 31)) &&& (1 : Int32)))), .val (.int (fv3 (fv1 p1 (p3 &&& (1 : Int32))) (fv1 p2 ((p3 >>> ((1 : Int32) &&& 31)) &&& (1 : Int32))))), .val (.int (1 : Int32)), .val (.int (1 : Int32))] [])) _
    refine XS.iconst X10.here hx rfl (hb hby at_85) ?_
    show Steps p.tables e below (T10.setTop (mkF m 86 #[.val (.int p1), .val (.int p2), .val (.int p3), .val (.int (fv1 p1 (p3 &&& (1 : Int32)))), .val (.int (fv1 p2 ((p3 >>> ((1 : Int32) &&& 31)) &&& (1 : Int32)))), .val (.int (fv3 (fv1 p1 (p3 &&& (1 : Int32))) (fv1 p2 ((p3 >>> ((1 : Int32) &&& 31)) &&& (1 : Int32))))), .val (.int (1 : Int32)), .val (.int (1 : Int32))] [(.int (1 : Int32))])) _
    refine XS.goto X10.here hx rfl (pc0 := 86) (pc' := 90) rfl (hb hby at_86) (by decide) (by decide) ?_
    show Steps p.tables e below (T10.setTop (mkF m 90 #[.val (.int p1), .val (.int p2), .val (.int p3), .val (.int (fv1 p1 (p3 &&& (1 : Int32)))), .val (.int (fv1 p2 ((p3 >>> ((1 : Int32) &&& 31)) &&& (1 : Int32)))), .val (.int (fv3 (fv1 p1 (p3 &&& (1 : Int32))) (fv1 p2 ((p3 >>> ((1 : Int32) &&& 31)) &&& (1 : Int32))))), .val (.int (1 : Int32)), .val (.int (1 : Int32))] [(.int (1 : Int32))])) _
    exact retN X10 hx (t := .boolean) Bd.returns (by simp) (hb hby at_90) hr
  · show QV (.int (1 : Int32)) h0 n0 _ T10.heap _
    exact ⟨rfl, N10, (by rw [eh10, eh9, eh8, eh7, eh6, eh5, eh4])⟩
set_option maxRecDepth 65536 in
set_option maxHeartbeats 40000000 in
theorem rm0_fffff (l : Launch) (Z : State) (a0 : Array Value) (hw : ∀ d ∈ tables_1, d.before a0 Z = true) (ws : List Jvm.Cond) (p1 : Int32) (p2 : Int32) (p3 : Int32) (h0 : Heap) (n0 : Nat) (Z0 : n0 ≤ h0.size) (hc30 : ¬ ((fv3 (fv1 p1 (p3 &&& (1 : Int32))) (fv1 p2 ((p3 >>> ((1 : Int32) &&& 31)) &&& (1 : Int32)))) = (fv1 p1 (p3 &&& (1 : Int32))))) (hc37 : (fv3 (fv1 p1 (p3 &&& (1 : Int32))) (fv1 p2 ((p3 >>> ((1 : Int32) &&& 31)) &&& (1 : Int32)))) = (fv1 p2 ((p3 >>> ((1 : Int32) &&& 31)) &&& (1 : Int32)))) (hc65 : (lcmpW (fv4 (fv3 (fv1 p1 (p3 &&& (1 : Int32))) (fv1 p2 ((p3 >>> ((1 : Int32) &&& 31)) &&& (1 : Int32))))) (fv5 (fv4 (fv1 p1 (p3 &&& (1 : Int32)))) (fv4 (fv1 p2 ((p3 >>> ((1 : Int32) &&& 31)) &&& (1 : Int32)))))) = (0 : Int32)) (hc77 : ¬ ((1 : Int32) = (0 : Int32))) (hc82 : ¬ ((1 : Int32) = (0 : Int32))) :
    MetFree l x (head1 (Jvm.Cond.code x code maxLocals ret :: ws) room_1) (fun a U => a = #[(.int p1), (.int p2), (.int p3)] ∧ Z.Warmed39 U.vm ∧ U.heap = h0) (fun _ _ _ _ _ => True) (fun _ U o U' => ∃ v L, o = .returned v ∧ QV (.int (1 : Int32)) h0 n0 v U'.heap L ∧ FrameEnd U o U' L room_1.cells room_1.slots) := by
  refine MetFree.of_bodySF (plainFor_of_name pn_0) hisR ?_
  intro p e s m args below meth c s₁ Bd hml0 hP hK
  obtain ⟨rfl, hZ, hh⟩ := hP
  have hx := Bd.exec
  have hby := Bd.bytes
  have hml : c.maxLocals = 8 := hml0
  have hown : s.vm.findClass "com/example/bounded_fetch/boundedfetch/FieldMetadataDeeperPinLaw" = some m.cls := findClass_of_methodNamed Bd.named
  have hnm := (name_of_methodNamed Bd.named Bd.method).1
  have X0 : Stand p l e room_1 s m #[(.int p1), (.int p2), (.int p3)] below meth c s₁ [] 0 0 := Stand.of_body Bd
  have e0 : s₁.heap = h0 := by rw [← hh, Bd.state]; rfl
  have N0 := Fr.nil n0
  have pre0 : ∀ t, Steps p.tables e below (s₁.setTop (mkF m 0 #[.val (.int p1), .val (.int p2), .val (.int p3), .unset, .unset, .unset, .unset, .unset] [])) t → Steps p.tables e below (s₁.setTop (entryFrame m #[(.int p1), (.int p2), (.int p3)] maxLocals)) t := fun t k => castTop (ef_0 m p1 p2 p3) k
  -- 3. LAWS
  -- pc 4: com/example/bounded_fetch/boundedfetch/FieldMetadataDeeperPinLaw.depthOf by its contract rm1
  obtain ⟨_, _, ⟨T4, L4, k4, n4⟩, -, X4, ⟨Lc4, hQ4, l4, y4, z4⟩, st4⟩ := Jvm.LawKit.callS X0 hx (y := (⟨"com/example/bounded_fetch/boundedfetch/FieldMetadataDeeperPinLaw", "depthOf", "(II)I"⟩ : MethodName)) hown (mvT hZ (hw _ (List.mem_of_getElem? (i := 0) rfl))) (mvT hZ (hw _ (List.mem_of_getElem? (i := 1) rfl))) (mvT hZ (hw _ (List.mem_of_getElem? (i := 2) rfl))) (mvT hZ (hw _ (List.mem_of_getElem? (i := 3) rfl))) (by decide) (backOf (W := 0) (rm1 l Z a0 hw [] p1 (p3 &&& (1 : Int32)) h0 n0 Z0) hZ (hw _ (List.mem_of_getElem? (i := 3) rfl)) (hw _ (List.mem_of_getElem? (i := 2) rfl)) (by decide) (by decide)) (g := (mkF m 4 #[.val (.int p1), .val (.int p2), .val (.int p3), .unset, .unset, .unset, .unset, .unset] [(.int (p3 &&& (1 : Int32))), (.int p1)])) rfl (by rw [hml]; rfl) (argsL := [(.int p1), (.int (p3 &&& (1 : Int32)))]) (rest := []) (lenOf pd_0_0 rfl) rfl (by show 2 * 0 + _ ≤ _; exact Nat.le_of_eq rfl) (hb hby at_4) (fun _ _ => ⟨rfl, e0, (by decide : 0 + 0 ≤ _), (by decide : 0 + 0 ≤ _)⟩)
  dsimp only [Pt.U, Pt.locs, Pt.cells, Pt.slots] at X4 l4 y4 z4 st4 hQ4
  subst l4 y4 z4
  obtain ⟨rfl, N4q, eh4⟩ := hQ4
  have Zh4 : n0 ≤ T4.heap.size := by rw [eh4]; exact Z0
  have N4 := Fr.app N0 N4q
  -- pc 14: com/example/bounded_fetch/boundedfetch/FieldMetadataDeeperPinLaw.depthOf by its contract rm1
  obtain ⟨_, _, ⟨T5, L5, k5, n5⟩, -, X5, ⟨Lc5, hQ5, l5, y5, z5⟩, st5⟩ := Jvm.LawKit.callS X4 hx (y := (⟨"com/example/bounded_fetch/boundedfetch/FieldMetadataDeeperPinLaw", "depthOf", "(II)I"⟩ : MethodName)) hown (mvT hZ (hw _ (List.mem_of_getElem? (i := 0) rfl))) (mvT hZ (hw _ (List.mem_of_getElem? (i := 1) rfl))) (mvT hZ (hw _ (List.mem_of_getElem? (i := 2) rfl))) (mvT hZ (hw _ (List.mem_of_getElem? (i := 3) rfl))) (by decide) (backOf (W := 0) (rm1 l Z a0 hw [] p2 ((p3 >>> ((1 : Int32) &&& 31)) &&& (1 : Int32)) T4.heap n0 Zh4) hZ (hw _ (List.mem_of_getElem? (i := 3) rfl)) (hw _ (List.mem_of_getElem? (i := 2) rfl)) (by decide) (by decide)) (g := (mkF m 14 #[.val (.int p1), .val (.int p2), .val (.int p3), .val (.int (fv1 p1 (p3 &&& (1 : Int32)))), .unset, .unset, .unset, .unset] [(.int ((p3 >>> ((1 : Int32) &&& 31)) &&& (1 : Int32))), (.int p2)])) rfl (by rw [hml]; rfl) (argsL := [(.int p2), (.int ((p3 >>> ((1 : Int32) &&& 31)) &&& (1 : Int32)))]) (rest := []) (lenOf pd_0_0 rfl) rfl (by show 2 * 0 + _ ≤ _; exact Nat.le_of_eq rfl) (hb hby at_14) (fun _ _ => ⟨rfl, rfl, (by decide : 0 + 0 ≤ _), (by decide : 0 + 0 ≤ _)⟩)
  dsimp only [Pt.U, Pt.locs, Pt.cells, Pt.slots] at X5 l5 y5 z5 st5 hQ5
  subst l5 y5 z5
  obtain ⟨rfl, N5q, eh5⟩ := hQ5
  have Zh5 : n0 ≤ T5.heap.size := by rw [eh5]; exact Zh4
  have N5 := Fr.app N4 N5q
  -- pc 22: com/example/bounded_fetch/boundedfetch/FieldMetadata.deeper by its contract rm3
  obtain ⟨_, _, ⟨T6, L6, k6, n6⟩, -, X6, ⟨Lc6, hQ6, l6, y6, z6⟩, st6⟩ := Jvm.LawKit.callS X5 hx (y := (⟨"com/example/bounded_fetch/boundedfetch/FieldMetadata", "deeper", "(II)I"⟩ : MethodName)) hown (mvT hZ (hw _ (List.mem_of_getElem? (i := 9) rfl))) (mvT hZ (hw _ (List.mem_of_getElem? (i := 10) rfl))) (mvT hZ (hw _ (List.mem_of_getElem? (i := 11) rfl))) (mvT hZ (hw _ (List.mem_of_getElem? (i := 12) rfl))) (by decide) (backOf (W := 0) (rm3 l Z a0 hw [] (fv1 p1 (p3 &&& (1 : Int32))) (fv1 p2 ((p3 >>> ((1 : Int32) &&& 31)) &&& (1 : Int32))) T5.heap n0 Zh5) hZ (hw _ (List.mem_of_getElem? (i := 12) rfl)) (hw _ (List.mem_of_getElem? (i := 11) rfl)) (by decide) (by decide)) (g := (mkF m 22 #[.val (.int p1), .val (.int p2), .val (.int p3), .val (.int (fv1 p1 (p3 &&& (1 : Int32)))), .val (.int (fv1 p2 ((p3 >>> ((1 : Int32) &&& 31)) &&& (1 : Int32)))), .unset, .unset, .unset] [(.int (fv1 p2 ((p3 >>> ((1 : Int32) &&& 31)) &&& (1 : Int32)))), (.int (fv1 p1 (p3 &&& (1 : Int32))))])) rfl (by rw [hml]; rfl) (argsL := [(.int (fv1 p1 (p3 &&& (1 : Int32)))), (.int (fv1 p2 ((p3 >>> ((1 : Int32) &&& 31)) &&& (1 : Int32))))]) (rest := []) (lenOf pd_0_0 rfl) rfl (by show 2 * 0 + _ ≤ _; exact Nat.le_of_eq rfl) (hb hby at_22) (fun _ _ => ⟨rfl, rfl, (by decide : 0 + 0 ≤ _), (by decide : 0 + 0 ≤ _)⟩)
  dsimp only [Pt.U, Pt.locs, Pt.cells, Pt.slots] at X6 l6 y6 z6 st6 hQ6
  subst l6 y6 z6
  obtain ⟨rfl, N6q, eh6⟩ := hQ6
  have Zh6 : n0 ≤ T6.heap.size := by rw [eh6]; exact Zh5
  have N6 := Fr.app N5 N6q
  -- pc 49: com/example/bounded_fetch/boundedfetch/FieldMetadataDeeperPinLaw.rank by its contract rm4
  obtain ⟨_, _, ⟨T7, L7, k7, n7⟩, -, X7, ⟨Lc7, hQ7, l7, y7, z7⟩, st7⟩ := Jvm.LawKit.callS X6 hx (y := (⟨"com/example/bounded_fetch/boundedfetch/FieldMetadataDeeperPinLaw", "rank", "(I)J"⟩ : MethodName)) hown (mvT hZ (hw _ (List.mem_of_getElem? (i := 13) rfl))) (mvT hZ (hw _ (List.mem_of_getElem? (i := 14) rfl))) (mvT hZ (hw _ (List.mem_of_getElem? (i := 2) rfl))) (mvT hZ (hw _ (List.mem_of_getElem? (i := 15) rfl))) (by decide) (backOf (W := 0) (rm4 l Z a0 hw [] (fv3 (fv1 p1 (p3 &&& (1 : Int32))) (fv1 p2 ((p3 >>> ((1 : Int32) &&& 31)) &&& (1 : Int32)))) T6.heap n0 Zh6) hZ (hw _ (List.mem_of_getElem? (i := 15) rfl)) (hw _ (List.mem_of_getElem? (i := 2) rfl)) (by decide) (by decide)) (g := (mkF m 49 #[.val (.int p1), .val (.int p2), .val (.int p3), .val (.int (fv1 p1 (p3 &&& (1 : Int32)))), .val (.int (fv1 p2 ((p3 >>> ((1 : Int32) &&& 31)) &&& (1 : Int32)))), .val (.int (fv3 (fv1 p1 (p3 &&& (1 : Int32))) (fv1 p2 ((p3 >>> ((1 : Int32) &&& 31)) &&& (1 : Int32))))), .val (.int (1 : Int32)), .unset] [(.int (fv3 (fv1 p1 (p3 &&& (1 : Int32))) (fv1 p2 ((p3 >>> ((1 : Int32) &&& 31)) &&& (1 : Int32)))))])) rfl (by rw [hml]; rfl) (argsL := [(.int (fv3 (fv1 p1 (p3 &&& (1 : Int32))) (fv1 p2 ((p3 >>> ((1 : Int32) &&& 31)) &&& (1 : Int32)))))]) (rest := []) (lenOf pd_0_1 rfl) rfl (by show 2 * 0 + _ ≤ _; exact Nat.le_of_eq rfl) (hb hby at_49) (fun _ _ => ⟨rfl, rfl, (by decide : 0 + 0 ≤ _), (by decide : 0 + 0 ≤ _)⟩)
  dsimp only [Pt.U, Pt.locs, Pt.cells, Pt.slots] at X7 l7 y7 z7 st7 hQ7
  subst l7 y7 z7
  obtain ⟨rfl, N7q, eh7⟩ := hQ7
  have Zh7 : n0 ≤ T7.heap.size := by rw [eh7]; exact Zh6
  have N7 := Fr.app N6 N7q
  -- pc 53: com/example/bounded_fetch/boundedfetch/FieldMetadataDeeperPinLaw.rank by its contract rm4
  obtain ⟨_, _, ⟨T8, L8, k8, n8⟩, -, X8, ⟨Lc8, hQ8, l8, y8, z8⟩, st8⟩ := Jvm.LawKit.callS X7 hx (y := (⟨"com/example/bounded_fetch/boundedfetch/FieldMetadataDeeperPinLaw", "rank", "(I)J"⟩ : MethodName)) hown (mvT hZ (hw _ (List.mem_of_getElem? (i := 13) rfl))) (mvT hZ (hw _ (List.mem_of_getElem? (i := 14) rfl))) (mvT hZ (hw _ (List.mem_of_getElem? (i := 2) rfl))) (mvT hZ (hw _ (List.mem_of_getElem? (i := 15) rfl))) (by decide) (backOf (W := 2) (rm4 l Z a0 hw [] (fv1 p1 (p3 &&& (1 : Int32))) T7.heap n0 Zh7) hZ (hw _ (List.mem_of_getElem? (i := 15) rfl)) (hw _ (List.mem_of_getElem? (i := 2) rfl)) (by decide) (by decide)) (g := (mkF m 53 #[.val (.int p1), .val (.int p2), .val (.int p3), .val (.int (fv1 p1 (p3 &&& (1 : Int32)))), .val (.int (fv1 p2 ((p3 >>> ((1 : Int32) &&& 31)) &&& (1 : Int32)))), .val (.int (fv3 (fv1 p1 (p3 &&& (1 : Int32))) (fv1 p2 ((p3 >>> ((1 : Int32) &&& 31)) &&& (1 : Int32))))), .val (.int (1 : Int32)), .unset] [(.int (fv1 p1 (p3 &&& (1 : Int32)))), (.long (fv4 (fv3 (fv1 p1 (p3 &&& (1 : Int32))) (fv1 p2 ((p3 >>> ((1 : Int32) &&& 31)) &&& (1 : Int32))))))])) rfl (by rw [hml]; rfl) (argsL := [(.int (fv1 p1 (p3 &&& (1 : Int32))))]) (rest := [(.long (fv4 (fv3 (fv1 p1 (p3 &&& (1 : Int32))) (fv1 p2 ((p3 >>> ((1 : Int32) &&& 31)) &&& (1 : Int32))))))]) (lenOf pd_0_1 rfl) rfl (by show 2 * 0 + _ ≤ _; exact Nat.le_of_eq rfl) (hb hby at_53) (fun _ _ => ⟨rfl, rfl, (by decide : 0 + 0 ≤ _), (by decide : 0 + 0 ≤ _)⟩)
  dsimp only [Pt.U, Pt.locs, Pt.cells, Pt.slots] at X8 l8 y8 z8 st8 hQ8
  subst l8 y8 z8
  obtain ⟨rfl, N8q, eh8⟩ := hQ8
  have Zh8 : n0 ≤ T8.heap.size := by rw [eh8]; exact Zh7
  have N8 := Fr.app N7 N8q
  -- pc 58: com/example/bounded_fetch/boundedfetch/FieldMetadataDeeperPinLaw.rank by its contract rm4
  obtain ⟨_, _, ⟨T9, L9, k9, n9⟩, -, X9, ⟨Lc9, hQ9, l9, y9, z9⟩, st9⟩ := Jvm.LawKit.callS X8 hx (y := (⟨"com/example/bounded_fetch/boundedfetch/FieldMetadataDeeperPinLaw", "rank", "(I)J"⟩ : MethodName)) hown (mvT hZ (hw _ (List.mem_of_getElem? (i := 13) rfl))) (mvT hZ (hw _ (List.mem_of_getElem? (i := 14) rfl))) (mvT hZ (hw _ (List.mem_of_getElem? (i := 2) rfl))) (mvT hZ (hw _ (List.mem_of_getElem? (i := 15) rfl))) (by decide) (backOf (W := 4) (rm4 l Z a0 hw [] (fv1 p2 ((p3 >>> ((1 : Int32) &&& 31)) &&& (1 : Int32))) T8.heap n0 Zh8) hZ (hw _ (List.mem_of_getElem? (i := 15) rfl)) (hw _ (List.mem_of_getElem? (i := 2) rfl)) (by decide) (by decide)) (g := (mkF m 58 #[.val (.int p1), .val (.int p2), .val (.int p3), .val (.int (fv1 p1 (p3 &&& (1 : Int32)))), .val (.int (fv1 p2 ((p3 >>> ((1 : Int32) &&& 31)) &&& (1 : Int32)))), .val (.int (fv3 (fv1 p1 (p3 &&& (1 : Int32))) (fv1 p2 ((p3 >>> ((1 : Int32) &&& 31)) &&& (1 : Int32))))), .val (.int (1 : Int32)), .unset] [(.int (fv1 p2 ((p3 >>> ((1 : Int32) &&& 31)) &&& (1 : Int32)))), (.long (fv4 (fv1 p1 (p3 &&& (1 : Int32))))), (.long (fv4 (fv3 (fv1 p1 (p3 &&& (1 : Int32))) (fv1 p2 ((p3 >>> ((1 : Int32) &&& 31)) &&& (1 : Int32))))))])) rfl (by rw [hml]; rfl) (argsL := [(.int (fv1 p2 ((p3 >>> ((1 : Int32) &&& 31)) &&& (1 : Int32))))]) (rest := [(.long (fv4 (fv1 p1 (p3 &&& (1 : Int32))))), (.long (fv4 (fv3 (fv1 p1 (p3 &&& (1 : Int32))) (fv1 p2 ((p3 >>> ((1 : Int32) &&& 31)) &&& (1 : Int32))))))]) (lenOf pd_0_1 rfl) rfl (by show 2 * 0 + _ ≤ _; exact Nat.le_of_eq rfl) (hb hby at_58) (fun _ _ => ⟨rfl, rfl, (by decide : 0 + 0 ≤ _), (by decide : 0 + 0 ≤ _)⟩)
  dsimp only [Pt.U, Pt.locs, Pt.cells, Pt.slots] at X9 l9 y9 z9 st9 hQ9
  subst l9 y9 z9
  obtain ⟨rfl, N9q, eh9⟩ := hQ9
  have Zh9 : n0 ≤ T9.heap.size := by rw [eh9]; exact Zh8
  have N9 := Fr.app N8 N9q
  -- pc 61: java/lang/Math.max by its contract rm5
  obtain ⟨_, _, ⟨T10, L10, k10, n10⟩, -, X10, ⟨Lc10, hQ10, l10, y10, z10⟩, st10⟩ := Jvm.LawKit.callS X9 hx (y := (⟨"java/lang/Math", "max", "(JJ)J"⟩ : MethodName)) hown (mvT hZ (hw _ (List.mem_of_getElem? (i := 17) rfl))) (mvT hZ (hw _ (List.mem_of_getElem? (i := 18) rfl))) (mvT hZ (hw _ (List.mem_of_getElem? (i := 7) rfl))) (mvT hZ (hw _ (List.mem_of_getElem? (i := 19) rfl))) (by decide) (backOf (W := 2) (rm5 l Z a0 hw [] (fv4 (fv1 p1 (p3 &&& (1 : Int32)))) (fv4 (fv1 p2 ((p3 >>> ((1 : Int32) &&& 31)) &&& (1 : Int32)))) T9.heap n0 Zh9) hZ (hw _ (List.mem_of_getElem? (i := 19) rfl)) (hw _ (List.mem_of_getElem? (i := 7) rfl)) (by decide) (by decide)) (g := (mkF m 61 #[.val (.int p1), .val (.int p2), .val (.int p3), .val (.int (fv1 p1 (p3 &&& (1 : Int32)))), .val (.int (fv1 p2 ((p3 >>> ((1 : Int32) &&& 31)) &&& (1 : Int32)))), .val (.int (fv3 (fv1 p1 (p3 &&& (1 : Int32))) (fv1 p2 ((p3 >>> ((1 : Int32) &&& 31)) &&& (1 : Int32))))), .val (.int (1 : Int32)), .unset] [(.long (fv4 (fv1 p2 ((p3 >>> ((1 : Int32) &&& 31)) &&& (1 : Int32))))), (.long (fv4 (fv1 p1 (p3 &&& (1 : Int32))))), (.long (fv4 (fv3 (fv1 p1 (p3 &&& (1 : Int32))) (fv1 p2 ((p3 >>> ((1 : Int32) &&& 31)) &&& (1 : Int32))))))])) rfl (by rw [hml]; rfl) (argsL := [(.long (fv4 (fv1 p1 (p3 &&& (1 : Int32))))), (.long (fv4 (fv1 p2 ((p3 >>> ((1 : Int32) &&& 31)) &&& (1 : Int32)))))]) (rest := [(.long (fv4 (fv3 (fv1 p1 (p3 &&& (1 : Int32))) (fv1 p2 ((p3 >>> ((1 : Int32) &&& 31)) &&& (1 : Int32))))))]) (lenOf pd_0_2 rfl) rfl (by show 2 * 0 + _ ≤ _; exact Nat.le_of_eq rfl) (hb hby at_61) (fun _ _ => ⟨rfl, rfl, (by decide : 0 + 0 ≤ _), (by decide : 0 + 0 ≤ _)⟩)
  dsimp only [Pt.U, Pt.locs, Pt.cells, Pt.slots] at X10 l10 y10 z10 st10 hQ10
  subst l10 y10 z10
  obtain ⟨rfl, N10q, eh10⟩ := hQ10
  have Zh10 : n0 ≤ T10.heap.size := by rw [eh10]; exact Zh9
  have N10 := Fr.app N9 N10q
  obtain ⟨fs, hr, hrun, hended, hW, hsame⟩ := X10.leave (v := some (.int (1 : Int32))) (fun h => by rw [Bd.returns] at h; cases h)
  refine ⟨_, _, pre0 _ ?_, hrun, hended, _, _, rfl, ?_, ⟨_, rfl⟩, hW, hsame.mono (by decide) (by decide)⟩
  -- 4. STEPS
  · show Steps p.tables e below (s₁.setTop (mkF m 0 #[.val (.int p1), .val (.int p2), .val (.int p3), .unset, .unset, .unset, .unset, .unset] [])) _
    refine XS.iloadN X0.here hx rfl (hb hby at_0) rfl ?_
    show Steps p.tables e below (s₁.setTop (mkF m 1 #[.val (.int p1), .val (.int p2), .val (.int p3), .unset, .unset, .unset, .unset, .unset] [(.int p1)])) _
    refine XS.iloadN X0.here hx rfl (hb hby at_1) rfl ?_
    show Steps p.tables e below (s₁.setTop (mkF m 2 #[.val (.int p1), .val (.int p2), .val (.int p3), .unset, .unset, .unset, .unset, .unset] [(.int p3), (.int p1)])) _
    refine XS.iconst X0.here hx rfl (hb hby at_2) ?_
    show Steps p.tables e below (s₁.setTop (mkF m 3 #[.val (.int p1), .val (.int p2), .val (.int p3), .unset, .unset, .unset, .unset, .unset] [(.int (1 : Int32)), (.int p3), (.int p1)])) _
    refine XS.iand X0.here hx rfl (hb hby at_3) rfl ?_
    show Steps p.tables e below (s₁.setTop (mkF m 4 #[.val (.int p1), .val (.int p2), .val (.int p3), .unset, .unset, .unset, .unset, .unset] [(.int (p3 &&& (1 : Int32))), (.int p1)])) _
    refine st4 _ ?_
    show Steps p.tables e below (T4.setTop (mkF m 7 #[.val (.int p1), .val (.int p2), .val (.int p3), .unset, .unset, .unset, .unset, .unset] [(.int (fv1 p1 (p3 &&& (1 : Int32))))])) _
    refine XS.istoreN X4.here hx rfl (hb hby at_7) rfl (l' := #[.val (.int p1), .val (.int p2), .val (.int p3), .val (.int (fv1 p1 (p3 &&& (1 : Int32)))), .unset, .unset, .unset, .unset]) rfl ?_
    show Steps p.tables e below (T4.setTop (mkF m 8 #[.val (.int p1), .val (.int p2), .val (.int p3), .val (.int (fv1 p1 (p3 &&& (1 : Int32)))), .unset, .unset, .unset, .unset] [])) _
    refine XS.iloadN X4.here hx rfl (hb hby at_8) rfl ?_
    show Steps p.tables e below (T4.setTop (mkF m 9 #[.val (.int p1), .val (.int p2), .val (.int p3), .val (.int (fv1 p1 (p3 &&& (1 : Int32)))), .unset, .unset, .unset, .unset] [(.int p2)])) _
    refine XS.iloadN X4.here hx rfl (hb hby at_9) rfl ?_
    show Steps p.tables e below (T4.setTop (mkF m 10 #[.val (.int p1), .val (.int p2), .val (.int p3), .val (.int (fv1 p1 (p3 &&& (1 : Int32)))), .unset, .unset, .unset, .unset] [(.int p3), (.int p2)])) _
    refine XS.iconst X4.here hx rfl (hb hby at_10) ?_
    show Steps p.tables e below (T4.setTop (mkF m 11 #[.val (.int p1), .val (.int p2), .val (.int p3), .val (.int (fv1 p1 (p3 &&& (1 : Int32)))), .unset, .unset, .unset, .unset] [(.int (1 : Int32)), (.int p3), (.int p2)])) _
    refine XS.ishr X4.here hx rfl (hb hby at_11) rfl ?_
    show Steps p.tables e below (T4.setTop (mkF m 12 #[.val (.int p1), .val (.int p2), .val (.int p3), .val (.int (fv1 p1 (p3 &&& (1 : Int32)))), .unset, .unset, .unset, .unset] [(.int (p3 >>> ((1 : Int32) &&& 31))), (.int p2)])) _
    refine XS.iconst X4.here hx rfl (hb hby at_12) ?_
    show Steps p.tables e below (T4.setTop (mkF m 13 #[.val (.int p1), .val (.int p2), .val (.int p3), .val (.int (fv1 p1 (p3 &&& (1 : Int32)))), .unset, .unset, .unset, .unset] [(.int (1 : Int32)), (.int (p3 >>> ((1 : Int32) &&& 31))), (.int p2)])) _
    refine XS.iand X4.here hx rfl (hb hby at_13) rfl ?_
    show Steps p.tables e below (T4.setTop (mkF m 14 #[.val (.int p1), .val (.int p2), .val (.int p3), .val (.int (fv1 p1 (p3 &&& (1 : Int32)))), .unset, .unset, .unset, .unset] [(.int ((p3 >>> ((1 : Int32) &&& 31)) &&& (1 : Int32))), (.int p2)])) _
    refine st5 _ ?_
    show Steps p.tables e below (T5.setTop (mkF m 17 #[.val (.int p1), .val (.int p2), .val (.int p3), .val (.int (fv1 p1 (p3 &&& (1 : Int32)))), .unset, .unset, .unset, .unset] [(.int (fv1 p2 ((p3 >>> ((1 : Int32) &&& 31)) &&& (1 : Int32))))])) _
    refine XS.istore X5.here hx rfl (hb hby at_17) rfl (l' := #[.val (.int p1), .val (.int p2), .val (.int p3), .val (.int (fv1 p1 (p3 &&& (1 : Int32)))), .val (.int (fv1 p2 ((p3 >>> ((1 : Int32) &&& 31)) &&& (1 : Int32)))), .unset, .unset, .unset]) rfl ?_
    show Steps p.tables e below (T5.setTop (mkF m 19 #[.val (.int p1), .val (.int p2), .val (.int p3), .val (.int (fv1 p1 (p3 &&& (1 : Int32)))), .val (.int (fv1 p2 ((p3 >>> ((1 : Int32) &&& 31)) &&& (1 : Int32)))), .unset, .unset, .unset] [])) _
    refine XS.iloadN X5.here hx rfl (hb hby at_19) rfl ?_
    show Steps p.tables e below (T5.setTop (mkF m 20 #[.val (.int p1), .val (.int p2), .val (.int p3), .val (.int (fv1 p1 (p3 &&& (1 : Int32)))), .val (.int (fv1 p2 ((p3 >>> ((1 : Int32) &&& 31)) &&& (1 : Int32)))), .unset, .unset, .unset] [(.int (fv1 p1 (p3 &&& (1 : Int32))))])) _
    refine XS.iload X5.here hx rfl (hb hby at_20) rfl ?_
    show Steps p.tables e below (T5.setTop (mkF m 22 #[.val (.int p1), .val (.int p2), .val (.int p3), .val (.int (fv1 p1 (p3 &&& (1 : Int32)))), .val (.int (fv1 p2 ((p3 >>> ((1 : Int32) &&& 31)) &&& (1 : Int32)))), .unset, .unset, .unset] [(.int (fv1 p2 ((p3 >>> ((1 : Int32) &&& 31)) &&& (1 : Int32)))), (.int (fv1 p1 (p3 &&& (1 : Int32))))])) _
    refine st6 _ ?_
    show Steps p.tables e below (T6.setTop (mkF m 25 #[.val (.int p1), .val (.int p2), .val (.int p3), .val (.int (fv1 p1 (p3 &&& (1 : Int32)))), .val (.int (fv1 p2 ((p3 >>> ((1 : Int32) &&& 31)) &&& (1 : Int32)))), .unset, .unset, .unset] [(.int (fv3 (fv1 p1 (p3 &&& (1 : Int32))) (fv1 p2 ((p3 >>> ((1 : Int32) &&& 31)) &&& (1 : Int32)))))])) _
    refine XS.istore X6.here hx rfl (hb hby at_25) rfl (l' := #[.val (.int p1), .val (.int p2), .val (.int p3), .val (.int (fv1 p1 (p3 &&& (1 : Int32)))), .val (.int (fv1 p2 ((p3 >>> ((1 : Int32) &&& 31)) &&& (1 : Int32)))), .val (.int (fv3 (fv1 p1 (p3 &&& (1 : Int32))) (fv1 p2 ((p3 >>> ((1 : Int32) &&& 31)) &&& (1 : Int32))))), .unset, .unset]) rfl ?_
    show Steps p.tables e below (T6.setTop (mkF m 27 #[.val (.int p1), .val (.int p2), .val (.int p3), .val (.int (fv1 p1 (p3 &&& (1 : Int32)))), .val (.int (fv1 p2 ((p3 >>> ((1 : Int32) &&& 31)) &&& (1 : Int32)))), .val (.int (fv3 (fv1 p1 (p3 &&& (1 : Int32))) (fv1 p2 ((p3 >>> ((1 : Int32) &&& 31)) &&& (1 : Int32))))), .unset, .unset] [])) _
    refine XS.iload X6.here hx rfl (hb hby at_27) rfl ?_
    show Steps p.tables e below (T6.setTop (mkF m 29 #[.val (.int p1), .val (.int p2), .val (.int p3), .val (.int (fv1 p1 (p3 &&& (1 : Int32)))), .val (.int (fv1 p2 ((p3 >>> ((1 : Int32) &&& 31)) &&& (1 : Int32)))), .val (.int (fv3 (fv1 p1 (p3 &&& (1 : Int32))) (fv1 p2 ((p3 >>> ((1 : Int32) &&& 31)) &&& (1 : Int32))))), .unset, .unset] [(.int (fv3 (fv1 p1 (p3 &&& (1 : Int32))) (fv1 p2 ((p3 >>> ((1 : Int32) &&& 31)) &&& (1 : Int32)))))])) _
    refine XS.iloadN X6.here hx rfl (hb hby at_29) rfl ?_
    show Steps p.tables e below (T6.setTop (mkF m 30 #[.val (.int p1), .val (.int p2), .val (.int p3), .val (.int (fv1 p1 (p3 &&& (1 : Int32)))), .val (.int (fv1 p2 ((p3 >>> ((1 : Int32) &&& 31)) &&& (1 : Int32)))), .val (.int (fv3 (fv1 p1 (p3 &&& (1 : Int32))) (fv1 p2 ((p3 >>> ((1 : Int32) &&& 31)) &&& (1 : Int32))))), .unset, .unset] [(.int (fv1 p1 (p3 &&& (1 : Int32)))), (.int (fv3 (fv1 p1 (p3 &&& (1 : Int32))) (fv1 p2 ((p3 >>> ((1 : Int32) &&& 31)) &&& (1 : Int32)))))])) _
    refine XS.icmpNo X6.here hx rfl (hb hby at_30) rfl (feq hc30).1 ?_
    show Steps p.tables e below (T6.setTop (mkF m 33 #[.val (.int p1), .val (.int p2), .val (.int p3), .val (.int (fv1 p1 (p3 &&& (1 : Int32)))), .val (.int (fv1 p2 ((p3 >>> ((1 : Int32) &&& 31)) &&& (1 : Int32)))), .val (.int (fv3 (fv1 p1 (p3 &&& (1 : Int32))) (fv1 p2 ((p3 >>> ((1 : Int32) &&& 31)) &&& (1 : Int32))))), .unset, .unset] [])) _
    refine XS.iload X6.here hx rfl (hb hby at_33) rfl ?_
    show Steps p.tables e below (T6.setTop (mkF m 35 #[.val (.int p1), .val (.int p2), .val (.int p3), .val (.int (fv1 p1 (p3 &&& (1 : Int32)))), .val (.int (fv1 p2 ((p3 >>> ((1 : Int32) &&& 31)) &&& (1 : Int32)))), .val (.int (fv3 (fv1 p1 (p3 &&& (1 : Int32))) (fv1 p2 ((p3 >>> ((1 : Int32) &&& 31)) &&& (1 : Int32))))), .unset, .unset] [(.int (fv3 (fv1 p1 (p3 &&& (1 : Int32))) (fv1 p2 ((p3 >>> ((1 : Int32) &&& 31)) &&& (1 : Int32)))))])) _
    refine XS.iload X6.here hx rfl (hb hby at_35) rfl ?_
    show Steps p.tables e below (T6.setTop (mkF m 37 #[.val (.int p1), .val (.int p2), .val (.int p3), .val (.int (fv1 p1 (p3 &&& (1 : Int32)))), .val (.int (fv1 p2 ((p3 >>> ((1 : Int32) &&& 31)) &&& (1 : Int32)))), .val (.int (fv3 (fv1 p1 (p3 &&& (1 : Int32))) (fv1 p2 ((p3 >>> ((1 : Int32) &&& 31)) &&& (1 : Int32))))), .unset, .unset] [(.int (fv1 p2 ((p3 >>> ((1 : Int32) &&& 31)) &&& (1 : Int32)))), (.int (fv3 (fv1 p1 (p3 &&& (1 : Int32))) (fv1 p2 ((p3 >>> ((1 : Int32) &&& 31)) &&& (1 : Int32)))))])) _
    refine XS.icmpNo X6.here hx rfl (hb hby at_37) rfl (teq hc37).2 ?_
    show Steps p.tables e below (T6.setTop (mkF m 40 #[.val (.int p1), .val (.int p2), .val (.int p3), .val (.int (fv1 p1 (p3 &&& (1 : Int32)))), .val (.int (fv1 p2 ((p3 >>> ((1 : Int32) &&& 31)) &&& (1 : Int32)))), .val (.int (fv3 (fv1 p1 (p3 &&& (1 : Int32))) (fv1 p2 ((p3 >>> ((1 : Int32) &&& 31)) &&& (1 : Int32))))), .unset, .unset] [])) _
    refine XS.iconst X6.here hx rfl (hb hby at_40) ?_
    show Steps p.tables e below (T6.setTop (mkF m 41 #[.val (.int p1), .val (.int p2), .val (.int p3), .val (.int (fv1 p1 (p3 &&& (1 : Int32)))), .val (.int (fv1 p2 ((p3 >>> ((1 : Int32) &&& 31)) &&& (1 : Int32)))), .val (.int (fv3 (fv1 p1 (p3 &&& (1 : Int32))) (fv1 p2 ((p3 >>> ((1 : Int32) &&& 31)) &&& (1 : Int32))))), .unset, .unset] [(.int (1 : Int32))])) _
    refine XS.goto X6.here hx rfl (pc0 := 41) (pc' := 45) rfl (hb hby at_41) (by decide) (by decide) ?_
    show Steps p.tables e below (T6.setTop (mkF m 45 #[.val (.int p1), .val (.int p2), .val (.int p3), .val (.int (fv1 p1 (p3 &&& (1 : Int32)))), .val (.int (fv1 p2 ((p3 >>> ((1 : Int32) &&& 31)) &&& (1 : Int32)))), .val (.int (fv3 (fv1 p1 (p3 &&& (1 : Int32))) (fv1 p2 ((p3 >>> ((1 : Int32) &&& 31)) &&& (1 : Int32))))), .unset, .unset] [(.int (1 : Int32))])) _
    refine XS.istore X6.here hx rfl (hb hby at_45) rfl (l' := #[.val (.int p1), .val (.int p2), .val (.int p3), .val (.int (fv1 p1 (p3 &&& (1 : Int32)))), .val (.int (fv1 p2 ((p3 >>> ((1 : Int32) &&& 31)) &&& (1 : Int32)))), .val (.int (fv3 (fv1 p1 (p3 &&& (1 : Int32))) (fv1 p2 ((p3 >>> ((1 : Int32) &&& 31)) &&& (1 : Int32))))), .val (.int (1 : Int32)), .unset]) rfl ?_
    show Steps p.tables e below (T6.setTop (mkF m 47 #[.val (.int p1), .val (.int p2), .val (.int p3), .val (.int (fv1 p1 (p3 &&& (1 : Int32)))), .val (.int (fv1 p2 ((p3 >>> ((1 : Int32) &&& 31)) &&& (1 : Int32)))), .val (.int (fv3 (fv1 p1 (p3 &&& (1 : Int32))) (fv1 p2 ((p3 >>> ((1 : Int32) &&& 31)) &&& (1 : Int32))))), .val (.int (1 : Int32)), .unset] [])) _
    refine XS.iload X6.here hx rfl (hb hby at_47) rfl ?_
    show Steps p.tables e below (T6.setTop (mkF m 49 #[.val (.int p1), .val (.int p2), .val (.int p3), .val (.int (fv1 p1 (p3 &&& (1 : Int32)))), .val (.int (fv1 p2 ((p3 >>> ((1 : Int32) &&& 31)) &&& (1 : Int32)))), .val (.int (fv3 (fv1 p1 (p3 &&& (1 : Int32))) (fv1 p2 ((p3 >>> ((1 : Int32) &&& 31)) &&& (1 : Int32))))), .val (.int (1 : Int32)), .unset] [(.int (fv3 (fv1 p1 (p3 &&& (1 : Int32))) (fv1 p2 ((p3 >>> ((1 : Int32) &&& 31)) &&& (1 : Int32)))))])) _
    refine st7 _ ?_
    show Steps p.tables e below (T7.setTop (mkF m 52 #[.val (.int p1), .val (.int p2), .val (.int p3), .val (.int (fv1 p1 (p3 &&& (1 : Int32)))), .val (.int (fv1 p2 ((p3 >>> ((1 : Int32) &&& 31)) &&& (1 : Int32)))), .val (.int (fv3 (fv1 p1 (p3 &&& (1 : Int32))) (fv1 p2 ((p3 >>> ((1 : Int32) &&& 31)) &&& (1 : Int32))))), .val (.int (1 : Int32)), .unset] [(.long (fv4 (fv3 (fv1 p1 (p3 &&& (1 : Int32))) (fv1 p2 ((p3 >>> ((1 : Int32) &&& 31)) &&& (1 : Int32))))))])) _
    refine XS.iloadN X7.here hx rfl (hb hby at_52) rfl ?_
    show Steps p.tables e below (T7.setTop (mkF m 53 #[.val (.int p1), .val (.int p2), .val (.int p3), .val (.int (fv1 p1 (p3 &&& (1 : Int32)))), .val (.int (fv1 p2 ((p3 >>> ((1 : Int32) &&& 31)) &&& (1 : Int32)))), .val (.int (fv3 (fv1 p1 (p3 &&& (1 : Int32))) (fv1 p2 ((p3 >>> ((1 : Int32) &&& 31)) &&& (1 : Int32))))), .val (.int (1 : Int32)), .unset] [(.int (fv1 p1 (p3 &&& (1 : Int32)))), (.long (fv4 (fv3 (fv1 p1 (p3 &&& (1 : Int32))) (fv1 p2 ((p3 >>> ((1 : Int32) &&& 31)) &&& (1 : Int32))))))])) _
    refine st8 _ ?_
    show Steps p.tables e below (T8.setTop (mkF m 56 #[.val (.int p1), .val (.int p2), .val (.int p3), .val (.int (fv1 p1 (p3 &&& (1 : Int32)))), .val (.int (fv1 p2 ((p3 >>> ((1 : Int32) &&& 31)) &&& (1 : Int32)))), .val (.int (fv3 (fv1 p1 (p3 &&& (1 : Int32))) (fv1 p2 ((p3 >>> ((1 : Int32) &&& 31)) &&& (1 : Int32))))), .val (.int (1 : Int32)), .unset] [(.long (fv4 (fv1 p1 (p3 &&& (1 : Int32))))), (.long (fv4 (fv3 (fv1 p1 (p3 &&& (1 : Int32))) (fv1 p2 ((p3 >>> ((1 : Int32) &&& 31)) &&& (1 : Int32))))))])) _
    refine XS.iload X8.here hx rfl (hb hby at_56) rfl ?_
    show Steps p.tables e below (T8.setTop (mkF m 58 #[.val (.int p1), .val (.int p2), .val (.int p3), .val (.int (fv1 p1 (p3 &&& (1 : Int32)))), .val (.int (fv1 p2 ((p3 >>> ((1 : Int32) &&& 31)) &&& (1 : Int32)))), .val (.int (fv3 (fv1 p1 (p3 &&& (1 : Int32))) (fv1 p2 ((p3 >>> ((1 : Int32) &&& 31)) &&& (1 : Int32))))), .val (.int (1 : Int32)), .unset] [(.int (fv1 p2 ((p3 >>> ((1 : Int32) &&& 31)) &&& (1 : Int32)))), (.long (fv4 (fv1 p1 (p3 &&& (1 : Int32))))), (.long (fv4 (fv3 (fv1 p1 (p3 &&& (1 : Int32))) (fv1 p2 ((p3 >>> ((1 : Int32) &&& 31)) &&& (1 : Int32))))))])) _
    refine st9 _ ?_
    show Steps p.tables e below (T9.setTop (mkF m 61 #[.val (.int p1), .val (.int p2), .val (.int p3), .val (.int (fv1 p1 (p3 &&& (1 : Int32)))), .val (.int (fv1 p2 ((p3 >>> ((1 : Int32) &&& 31)) &&& (1 : Int32)))), .val (.int (fv3 (fv1 p1 (p3 &&& (1 : Int32))) (fv1 p2 ((p3 >>> ((1 : Int32) &&& 31)) &&& (1 : Int32))))), .val (.int (1 : Int32)), .unset] [(.long (fv4 (fv1 p2 ((p3 >>> ((1 : Int32) &&& 31)) &&& (1 : Int32))))), (.long (fv4 (fv1 p1 (p3 &&& (1 : Int32))))), (.long (fv4 (fv3 (fv1 p1 (p3 &&& (1 : Int32))) (fv1 p2 ((p3 >>> ((1 : Int32) &&& 31)) &&& (1 : Int32))))))])) _
    refine st10 _ ?_
    show Steps p.tables e below (T10.setTop (mkF m 64 #[.val (.int p1), .val (.int p2), .val (.int p3), .val (.int (fv1 p1 (p3 &&& (1 : Int32)))), .val (.int (fv1 p2 ((p3 >>> ((1 : Int32) &&& 31)) &&& (1 : Int32)))), .val (.int (fv3 (fv1 p1 (p3 &&& (1 : Int32))) (fv1 p2 ((p3 >>> ((1 : Int32) &&& 31)) &&& (1 : Int32))))), .val (.int (1 : Int32)), .unset] [(.long (fv5 (fv4 (fv1 p1 (p3 &&& (1 : Int32)))) (fv4 (fv1 p2 ((p3 >>> ((1 : Int32) &&& 31)) &&& (1 : Int32)))))), (.long (fv4 (fv3 (fv1 p1 (p3 &&& (1 : Int32))) (fv1 p2 ((p3 >>> ((1 : Int32) &&& 31)) &&& (1 : Int32))))))])) _
    refine XS.lcmp X10.here hx rfl (hb hby at_64) rfl ?_
    show Steps p.tables e below (T10.setTop (mkF m 65 #[.val (.int p1), .val (.int p2), .val (.int p3), .val (.int (fv1 p1 (p3 &&& (1 : Int32)))), .val (.int (fv1 p2 ((p3 >>> ((1 : Int32) &&& 31)) &&& (1 : Int32)))), .val (.int (fv3 (fv1 p1 (p3 &&& (1 : Int32))) (fv1 p2 ((p3 >>> ((1 : Int32) &&& 31)) &&& (1 : Int32))))), .val (.int (1 : Int32)), .unset] [(.int (lcmpW (fv4 (fv3 (fv1 p1 (p3 &&& (1 : Int32))) (fv1 p2 ((p3 >>> ((1 : Int32) &&& 31)) &&& (1 : Int32))))) (fv5 (fv4 (fv1 p1 (p3 &&& (1 : Int32)))) (fv4 (fv1 p2 ((p3 >>> ((1 : Int32) &&& 31)) &&& (1 : Int32)))))))])) _
    refine XS.ifNo X10.here hx rfl (hb hby at_65) rfl ((if0 _ _).trans (teq hc65).2) ?_
    show Steps p.tables e below (T10.setTop (mkF m 68 #[.val (.int p1), .val (.int p2), .val (.int p3), .val (.int (fv1 p1 (p3 &&& (1 : Int32)))), .val (.int (fv1 p2 ((p3 >>> ((1 : Int32) &&& 31)) &&& (1 : Int32)))), .val (.int (fv3 (fv1 p1 (p3 &&& (1 : Int32))) (fv1 p2 ((p3 >>> ((1 : Int32) &&& 31)) &&& (1 : Int32))))), .val (.int (1 : Int32)), .unset] [])) _
    refine XS.iconst X10.here hx rfl (hb hby at_68) ?_
    show Steps p.tables e below (T10.setTop (mkF m 69 #[.val (.int p1), .val (.int p2), .val (.int p3), .val (.int (fv1 p1 (p3 &&& (1 : Int32)))), .val (.int (fv1 p2 ((p3 >>> ((1 : Int32) &&& 31)) &&& (1 : Int32)))), .val (.int (fv3 (fv1 p1 (p3 &&& (1 : Int32))) (fv1 p2 ((p3 >>> ((1 : Int32) &&& 31)) &&& (1 : Int32))))), .val (.int (1 : Int32)), .unset] [(.int (1 : Int32))])) _
    refine XS.goto X10.here hx rfl (pc0 := 69) (pc' := 73) rfl (hb hby at_69) (by decide) (by decide) ?_
    show Steps p.tables e below (T10.setTop (mkF m 73 #[.val (.int p1), .val (.int p2), .val (.int p3), .val (.int (fv1 p1 (p3 &&& (1 : Int32)))), .val (.int (fv1 p2 ((p3 >>> ((1 : Int32) &&& 31)) &&& (1 : Int32)))), .val (.int (fv3 (fv1 p1 (p3 &&& (1 : Int32))) (fv1 p2 ((p3 >>> ((1 : Int32) &&& 31)) &&& (1 : Int32))))), .val (.int (1 : Int32)), .unset] [(.int (1 : Int32))])) _
    refine XS.istore X10.here hx rfl (hb hby at_73) rfl (l' := #[.val (.int p1), .val (.int p2), .val (.int p3), .val (.int (fv1 p1 (p3 &&& (1 : Int32)))), .val (.int (fv1 p2 ((p3 >>> ((1 : Int32) &&& 31)) &&& (1 : Int32)))), .val (.int (fv3 (fv1 p1 (p3 &&& (1 : Int32))) (fv1 p2 ((p3 >>> ((1 : Int32) &&& 31)) &&& (1 : Int32))))), .val (.int (1 : Int32)), .val (.int (1 : Int32))]) rfl ?_
    show Steps p.tables e below (T10.setTop (mkF m 75 #[.val (.int p1), .val (.int p2), .val (.int p3), .val (.int (fv1 p1 (p3 &&& (1 : Int32)))), .val (.int (fv1 p2 ((p3 >>> ((1 : Int32) &&& 31)) &&& (1 : Int32)))), .val (.int (fv3 (fv1 p1 (p3 &&& (1 : Int32))) (fv1 p2 ((p3 >>> ((1 : Int32) &&& 31)) &&& (1 : Int32))))), .val (.int (1 : Int32)), .val (.int (1 : Int32))] [])) _
    refine XS.iload X10.here hx rfl (hb hby at_75) rfl ?_
    show Steps p.tables e below (T10.setTop (mkF m 77 #[.val (.int p1), .val (.int p2), .val (.int p3), .val (.int (fv1 p1 (p3 &&& (1 : Int32)))), .val (.int (fv1 p2 ((p3 >>> ((1 : Int32) &&& 31)) &&& (1 : Int32)))), .val (.int (fv3 (fv1 p1 (p3 &&& (1 : Int32))) (fv1 p2 ((p3 >>> ((1 : Int32) &&& 31)) &&& (1 : Int32))))), .val (.int (1 : Int32)), .val (.int (1 : Int32))] [(.int (1 : Int32))])) _
    refine XS.ifNo X10.here hx rfl (hb hby at_77) rfl ((if0 _ _).trans (feq hc77).1) ?_
    show Steps p.tables e below (T10.setTop (mkF m 80 #[.val (.int p1), .val (.int p2), .val (.int p3), .val (.int (fv1 p1 (p3 &&& (1 : Int32)))), .val (.int (fv1 p2 ((p3 >>> ((1 : Int32) &&& 31)) &&& (1 : Int32)))), .val (.int (fv3 (fv1 p1 (p3 &&& (1 : Int32))) (fv1 p2 ((p3 >>> ((1 : Int32) &&& 31)) &&& (1 : Int32))))), .val (.int (1 : Int32)), .val (.int (1 : Int32))] [])) _
    refine XS.iload X10.here hx rfl (hb hby at_80) rfl ?_
    show Steps p.tables e below (T10.setTop (mkF m 82 #[.val (.int p1), .val (.int p2), .val (.int p3), .val (.int (fv1 p1 (p3 &&& (1 : Int32)))), .val (.int (fv1 p2 ((p3 >>> ((1 : Int32) &&& 31)) &&& (1 : Int32)))), .val (.int (fv3 (fv1 p1 (p3 &&& (1 : Int32))) (fv1 p2 ((p3 >>> ((1 : Int32) &&& 31)) &&& (1 : Int32))))), .val (.int (1 : Int32)), .val (.int (1 : Int32))] [(.int (1 : Int32))])) _
    refine XS.ifNo X10.here hx rfl (hb hby at_82) rfl ((if0 _ _).trans (feq hc82).1) ?_
    show Steps p.tables e below (T10.setTop (mkF m 85 #[.val (.int p1), .val (.int p2), .val (.int p3), .val (.int (fv1 p1 (p3 &&& (1 : Int32)))), .val (.int (fv1 p2 ((p3 >>> ((1 : Int32) &&& 31)) &&& (1 : Int32)))), .val (.int (fv3 (fv1 p1 (p3 &&& (1 : Int32))) (fv1 p2 ((p3 >>> ((1 : Int32) &&& 31)) &&& (1 : Int32))))), .val (.int (1 : Int32)), .val (.int (1 : Int32))] [])) _
    refine XS.iconst X10.here hx rfl (hb hby at_85) ?_
    show Steps p.tables e below (T10.setTop (mkF m 86 #[.val (.int p1), .val (.int p2), .val (.int p3), .val (.int (fv1 p1 (p3 &&& (1 : Int32)))), .val (.int (fv1 p2 ((p3 >>> ((1 : Int32) &&& 31)) &&& (1 : Int32)))), .val (.int (fv3 (fv1 p1 (p3 &&& (1 : Int32))) (fv1 p2 ((p3 >>> ((1 : Int32) &&& 31)) &&& (1 : Int32))))), .val (.int (1 : Int32)), .val (.int (1 : Int32))] [(.int (1 : Int32))])) _
    refine XS.goto X10.here hx rfl (pc0 := 86) (pc' := 90) rfl (hb hby at_86) (by decide) (by decide) ?_
    show Steps p.tables e below (T10.setTop (mkF m 90 #[.val (.int p1), .val (.int p2), .val (.int p3), .val (.int (fv1 p1 (p3 &&& (1 : Int32)))), .val (.int (fv1 p2 ((p3 >>> ((1 : Int32) &&& 31)) &&& (1 : Int32)))), .val (.int (fv3 (fv1 p1 (p3 &&& (1 : Int32))) (fv1 p2 ((p3 >>> ((1 : Int32) &&& 31)) &&& (1 : Int32))))), .val (.int (1 : Int32)), .val (.int (1 : Int32))] [(.int (1 : Int32))])) _
    exact retN X10 hx (t := .boolean) Bd.returns (by simp) (hb hby at_90) hr
  · show QV (.int (1 : Int32)) h0 n0 _ T10.heap _
    exact ⟨rfl, N10, (by rw [eh10, eh9, eh8, eh7, eh6, eh5, eh4])⟩
set_option maxRecDepth 65536 in
set_option maxHeartbeats 40000000 in
theorem rm0 (l : Launch) (Z : State) (a0 : Array Value) (hw : ∀ d ∈ tables_1, d.before a0 Z = true) (ws : List Jvm.Cond) (p1 : Int32) (p2 : Int32) (p3 : Int32) (h0 : Heap) (n0 : Nat) (Z0 : n0 ≤ h0.size) :
    MetFree l x (head1 (Jvm.Cond.code x code maxLocals ret :: ws) room_1) (fun a U => a = #[(.int p1), (.int p2), (.int p3)] ∧ Z.Warmed39 U.vm ∧ U.heap = h0) (fun _ _ _ _ _ => True) (fun _ U o U' => ∃ v L, o = .returned v ∧ QV (.int (1 : Int32)) h0 n0 v U'.heap L ∧ FrameEnd U o U' L room_1.cells room_1.slots) := by
  have hr := (lw_eq _ _).mpr (own_rank (fv1 p1 (p3 &&& (1 : Int32))) (fv1 p2 ((p3 >>> ((1 : Int32) &&& 31)) &&& (1 : Int32))) (own_depth _ _) (own_depth _ _))
  by_cases hc30 : fv3 (fv1 p1 (p3 &&& (1 : Int32))) (fv1 p2 ((p3 >>> ((1 : Int32) &&& 31)) &&& (1 : Int32))) = (fv1 p1 (p3 &&& (1 : Int32)))
  · exact rm0_tfff l Z a0 hw ws p1 p2 p3 h0 n0 Z0 hc30 hr (by decide) (by decide)
  · exact rm0_fffff l Z a0 hw ws p1 p2 p3 h0 n0 Z0 hc30 (own_one _ _ hc30) hr (by decide) (by decide)
-- 5. FROM THE CASE'S WORDS TO rm0, AND THE OWED THEOREMS
set_option maxRecDepth 65536 in
set_option maxHeartbeats 40000000 in
theorem comes_1 {Post : Tables → Env → Array Value → State → Outcome → State → Prop} (hpost : ∀ tb e args s v u, (limb_1_1.after args s (.returned v) u = true ∧ limb_1_2.after args s (.returned v) u = true ∧ True) → FrameEnd s (.returned v) u (Jvm.fieldLocs frame_1_writes args s ++ Jvm.arrayLocs frame_1_arrays args s ++ Jvm.staticLocs frame_1_statics s) 0 0 → Post tb e args s (.returned v) u) :
    ArmFor flags0 classFile x code maxLocals ret World_1 tables_1 room_1 Calls_1 rest_1 Pre_1 Post := by
  intro l hfl _ _ p e ha hc hk s m args below hf hA hF happ hP
  obtain ⟨hcalls, hrest, hpre⟩ := hP
  obtain ⟨-, -, -, hnamed, -, -, -, hat⟩ := (Spec.applies_iff hf).mp happ
  obtain ⟨hg, hn⟩ := and_e (Cond.before_iff.mp (show (Jvm.Cond.and given_1 narrow_1).before args s = true from hpre))
  obtain ⟨g11, g12⟩ := and_e hg
  obtain ⟨g13, g14⟩ := and_e g12
  obtain ⟨g15, g16⟩ := and_e g14
  obtain ⟨w0, w1, w2, rfl⟩ : ∃ w0 w1 w2 : Value, args = #[w0, w1, w2] := by
    have hs : args.size = 3 := by simpa [Cond.value, given_1] using g11
    obtain ⟨L⟩ := args
    match L, hs with
    | [w0, w1, w2], _ => exact ⟨w0, w1, w2, rfl⟩
  have hw := fun d (hd : d ∈ tables_1) => atoms_spec (ws := Jvm.Cond.code x code maxLocals ret :: tables_1) hat d (List.mem_cons_of_mem _ hd)
  have hfit : Fit s := fun {y c} hc i hi => by
    obtain ⟨ha, rfl⟩ := Array.getElem?_eq_some_iff.mp hc
    have q := List.all_eq_true.mp ((Array.all_eq_true_iff_forall_mem.mp hF) _ (Array.getElem_mem ha)) i (List.mem_range.mpr hi)
    simpa [Array.getElem?_eq_getElem hi] using q
  obtain ⟨i0, ei0⟩ := is_v g13
  obtain rfl : w0 = (.int i0) := Option.some.inj ei0
  obtain ⟨i1, ei1⟩ := is_v g15
  obtain rfl : w1 = (.int i1) := Option.some.inj ei1
  obtain ⟨i2, ei2⟩ := is_v g16
  obtain rfl : w2 = (.int i2) := Option.some.inj ei2
  obtain ⟨n, o, h1, h2, h3, _, L, rfl, ⟨rfl, N, _⟩, hq⟩ := rm0 l s _ hw tables_1 i0 i1 i2 s.heap s.heap.size (Nat.le_refl _) p e ha hc hk s m _ below hf ((Spec.applies_iff_loose hf).mp happ).1 ⟨rfl, State.Warmed39.refl s, rfl⟩ trivial
  refine ⟨n, _, h1, h2, h3, hpost _ _ _ _ _ _ ⟨Cond.after_iff.mpr rfl, Cond.after_iff.mpr (eq_i res_at (Term.int_eval (1)) rfl), trivial⟩ ⟨hq.1, hq.2.1, (hq.2.2.sift fun y hy => Or.inr (N y hy)).mono (by decide) (by decide)⟩⟩
theorem main_1_1 : Claimed_1_1 := comes_1 fun _ _ _ _ _ _ h hF => ⟨h.1, hF⟩
theorem main_1_2 : Claimed_1_2 := comes_1 fun _ _ _ _ _ _ h hF => ⟨h.2.1, hF⟩
end Jvm.Pilot.@@N@@
namespace Jvm.Pilot.@@N@@
open Jvm Jvm.ClassFile Sem Op Lib Jvm.Free Jvm.Stand Jvm.Pilot.@@N@@.Jvm.D
/-! MADE BY PROGRAM (witnessworld.py) out of the Statement's table words and the real class files: 8 classes; the members and pool entries that the words name. The judged class is class 1, her method 3. -/
namespace start1
open Jvm.ClassFile
def u (s : String) : CpInfo := .utf8 (stringToUtf16 s)
/-- a pool by its gaps: so many unusable entries, then the entry; so many at the end -/
def gap : Nat → List CpInfo → List CpInfo
  | 0, r => r
  | n + 1, r => .unusable :: gap n r
def poolList (es : List (Nat × CpInfo)) (last : Nat) : List CpInfo := es.foldr (fun e r => gap e.1 (e.2 :: r)) (gap last [])
def pool (es : List (Nat × CpInfo)) (last : Nat) : Array CpInfo := ⟨poolList es last⟩
def fileOf (pool : Array CpInfo) (this : Nat) (attrs : Array Attribute := #[]) (ms : Array MethodInfo := #[]) (fl : Nat := 33) (sup : Nat := 0) (ifs : Array Nat := #[]) (fds : Array FieldInfo := #[]) : ClassFile where
  minorVersion := 0
  majorVersion := 65
  constantPool := pool
  accessFlags := fl
  thisClass := this
  superClass := sup
  interfaces := ifs
  fields := fds
  methods := ms
  attributes := attrs
def plain (name : String) (sup : Option ClassId) : Class where
  name := name
  kind := .ordinary
  loader := none
  accessFlags := 33
  super := sup
  interfaces := #[]
  cf := none
  fields := #[]
  methods := #[]
  instanceTypes := #[]
  staticTypes := #[]
  resolved := #[]
  callSites := []
  init := .initialized
  statics := none
  mirror := none

def pool0 : Array CpInfo := pool [(5, u "<init>"), (0, u "()V"), (1, .class_ 10), (1, u "java/lang/Object")] 113

def k0m0 : Method := { name := "<init>", desc := "()V", sig := { parameters := [], returnType := none }, accessFlags := 1, code := none }
/-- java/lang/Object -/
def k0 : Class := { plain "java/lang/Object" none with
  accessFlags := 33
  interfaces := #[]
  cf := some (fileOf pool0 8 #[] #[{ accessFlags := 1, nameIndex := 5, descriptorIndex := 6, attributes := #[] }] 33 0 #[] #[])
  fields := #[]
  methods := #[k0m0]
  instanceTypes := #[]
  staticTypes := #[]
  resolved := Array.replicate 124 none
  statics := none }

def pool1 : Array CpInfo := pool [(2, .class_ 4), (1, u "java/lang/Object"), (0, u "<init>"), (0, u "()V"), (0, .integer 2147483647), (0, .methodref 9 10), (0, .class_ 11), (0, .nameAndType 12 13), (0, u "java/lang/Math"), (0, u "max"), (0, u "(II)I"), (2, .long 9223372036854775807), (1, .methodref 19 20), (0, .class_ 21), (0, .nameAndType 22 13), (0, u "com/example/bounded_fetch/boundedfetch/FieldMetadataDeeperPinLaw"), (0, u "depthOf"), (0, .methodref 24 25), (0, .class_ 26), (0, .nameAndType 27 13), (0, u "com/example/bounded_fetch/boundedfetch/FieldMetadata"), (0, u "deeper"), (0, .methodref 19 29), (0, .nameAndType 30 31), (0, u "rank"), (0, u "(I)J"), (0, .methodref 9 33), (0, .nameAndType 12 34), (0, u "(JJ)J"), (3, u "law"), (0, u "(III)Z")] 2

def k1m0 : Method := { name := "<init>", desc := "()V", sig := { parameters := [], returnType := none }, accessFlags := 2, code := none }
def k1c1 : Code := { maxStack := 3, maxLocals := 2, code := method_2_code, exceptionTable := #[], attributes := #[] }
def k1m1 : Method := { name := "depthOf", desc := "(II)I", sig := { parameters := [.int, .int], returnType := some .int }, accessFlags := 10, code := some k1c1 }
def k1c2 : Code := { maxStack := 2, maxLocals := 1, code := method_3_code, exceptionTable := #[], attributes := #[] }
def k1m2 : Method := { name := "rank", desc := "(I)J", sig := { parameters := [.int], returnType := some .long }, accessFlags := 10, code := some k1c2 }
def k1c3 : Code := { maxStack := 6, maxLocals := 8, code := code, exceptionTable := #[], attributes := #[] }
def k1m3 : Method := { name := "law", desc := "(III)Z", sig := { parameters := [.int, .int, .int], returnType := some .boolean }, accessFlags := 9, code := some k1c3 }
/-- com/example/bounded_fetch/boundedfetch/FieldMetadataDeeperPinLaw -/
def k1 : Class := { plain "com/example/bounded_fetch/boundedfetch/FieldMetadataDeeperPinLaw" (some 0) with
  accessFlags := 49
  interfaces := #[]
  cf := some (fileOf pool1 19 #[] #[{ accessFlags := 2, nameIndex := 5, descriptorIndex := 6, attributes := #[] }, { accessFlags := 10, nameIndex := 22, descriptorIndex := 13, attributes := #[] }, { accessFlags := 10, nameIndex := 30, descriptorIndex := 31, attributes := #[] }, { accessFlags := 9, nameIndex := 38, descriptorIndex := 39, attributes := #[] }] 49 2 #[] #[])
  fields := #[]
  methods := #[k1m0, k1m1, k1m2, k1m3]
  instanceTypes := #[]
  staticTypes := #[]
  resolved := Array.replicate 42 none
  statics := none }

def pool2 : Array CpInfo := pool [(1, .class_ 2), (0, u "java/lang/Math"), (1, .class_ 6), (1, u "java/lang/Object"), (0, u "<init>"), (0, u "()V"), (89, .class_ 100), (1, u "java/lang/Math$RandomNumberGeneratorHolder"), (20, u "(JJ)J"), (50, u "negativeZeroFloatBits"), (0, u "J"), (2, u "negativeZeroDoubleBits"), (21, u "max"), (46, u "$assertionsDisabled"), (0, u "Z"), (88, u "(II)I"), (2, u "twoToTheDoubleScaleDown"), (0, u "D"), (4, u "twoToTheDoubleScaleUp"), (9, u "E"), (3, u "PI"), (2, u "TAU"), (2, u "DEGREES_TO_RADIANS"), (0, u "RADIANS_TO_DEGREES")] 94

def k2m0 : Method := { name := "<init>", desc := "()V", sig := { parameters := [], returnType := none }, accessFlags := 2, code := none }
def k2c1 : Code := { maxStack := 2, maxLocals := 2, code := jdk_29_method_65_code, exceptionTable := #[], attributes := #[] }
def k2m1 : Method := { name := "max", desc := "(II)I", sig := { parameters := [.int, .int], returnType := some .int }, accessFlags := 9, code := some k2c1 }
def k2c2 : Code := { maxStack := 4, maxLocals := 4, code := jdk_29_method_66_code, exceptionTable := #[], attributes := #[] }
def k2m2 : Method := { name := "max", desc := "(JJ)J", sig := { parameters := [.long, .long], returnType := some .long }, accessFlags := 9, code := some k2c2 }
/-- java/lang/Math -/
def k2 : Class := { plain "java/lang/Math" (some 0) with
  accessFlags := 49
  interfaces := #[]
  cf := some (fileOf pool2 1 #[.nestMembers #[98]] #[{ accessFlags := 2, nameIndex := 7, descriptorIndex := 8, attributes := #[] }, { accessFlags := 9, nameIndex := 198, descriptorIndex := 335, attributes := #[] }, { accessFlags := 9, nameIndex := 198, descriptorIndex := 121, attributes := #[] }] 49 4 #[] #[{ accessFlags := 25, nameIndex := 354, descriptorIndex := 339, attributes := #[] }, { accessFlags := 25, nameIndex := 358, descriptorIndex := 339, attributes := #[] }, { accessFlags := 25, nameIndex := 361, descriptorIndex := 339, attributes := #[] }, { accessFlags := 26, nameIndex := 364, descriptorIndex := 339, attributes := #[] }, { accessFlags := 26, nameIndex := 365, descriptorIndex := 339, attributes := #[] }, { accessFlags := 26, nameIndex := 172, descriptorIndex := 173, attributes := #[] }, { accessFlags := 26, nameIndex := 176, descriptorIndex := 173, attributes := #[] }, { accessFlags := 8, nameIndex := 344, descriptorIndex := 339, attributes := #[] }, { accessFlags := 8, nameIndex := 338, descriptorIndex := 339, attributes := #[] }, { accessFlags := 4120, nameIndex := 245, descriptorIndex := 246, attributes := #[] }])
  fields := #[{ name := "E", type := .double, accessFlags := 25, slot := 0, constantValue := 0 }, { name := "PI", type := .double, accessFlags := 25, slot := 1, constantValue := 0 }, { name := "TAU", type := .double, accessFlags := 25, slot := 2, constantValue := 0 }, { name := "DEGREES_TO_RADIANS", type := .double, accessFlags := 26, slot := 3, constantValue := 0 }, { name := "RADIANS_TO_DEGREES", type := .double, accessFlags := 26, slot := 4, constantValue := 0 }, { name := "negativeZeroFloatBits", type := .long, accessFlags := 26, slot := 5, constantValue := 0 }, { name := "negativeZeroDoubleBits", type := .long, accessFlags := 26, slot := 6, constantValue := 0 }, { name := "twoToTheDoubleScaleUp", type := .double, accessFlags := 8, slot := 7, constantValue := 0 }, { name := "twoToTheDoubleScaleDown", type := .double, accessFlags := 8, slot := 8, constantValue := 0 }, { name := "$assertionsDisabled", type := .boolean, accessFlags := 4120, slot := 9, constantValue := 0 }]
  methods := #[k2m0, k2m1, k2m2]
  instanceTypes := #[]
  staticTypes := #[.double, .double, .double, .double, .double, .long, .long, .double, .double, .boolean]
  resolved := Array.replicate 460 none
  statics := none }

def pool3 : Array CpInfo := pool [(1, .class_ 2), (0, u "java/io/Serializable"), (0, .class_ 4), (0, u "java/lang/Object")] 2

/-- java/io/Serializable -/
def k3 : Class := { plain "java/io/Serializable" (some 0) with
  accessFlags := 1537
  interfaces := #[]
  cf := some (fileOf pool3 1 #[] #[] 1537 3 #[] #[])
  fields := #[]
  methods := #[]
  instanceTypes := #[]
  staticTypes := #[]
  resolved := Array.replicate 7 none
  statics := none }

def pool4 : Array CpInfo := pool [(2, .class_ 4), (1, u "java/lang/Object"), (3, .class_ 10), (1, u "com/example/bounded_fetch/boundedfetch/FieldMetadata"), (0, u "owner"), (0, u "Ljava/lang/Class;"), (0, .class_ 14), (0, u "com/example/bounded_fetch/boundedfetch/FieldMetadata$JavaField"), (21, u "javaField"), (0, u "Lcom/example/bounded_fetch/boundedfetch/FieldMetadata$JavaField;"), (2, u "column"), (8, u "Ljava/lang/String;"), (2, u "primaryKey"), (3, u "Z"), (6, u "toMany"), (2, u "mappedBy"), (7, u "referencedType"), (2, u "valueClass"), (41, u "valueType"), (0, u "Lcom/example/bounded_fetch/boundedfetch/ValueType;"), (9, u "joinTable"), (0, u "Lcom/example/bounded_fetch/boundedfetch/FieldMetadata$JoinTable;"), (12, u "inDefaultGroup"), (2, u "recursionDepth"), (9, u "I"), (36, u "COLLECTIONS"), (0, u "Ljava/util/Map;"), (12, u "RECURSION_DEPTH"), (0, u "Ljava/util/regex/Pattern;"), (31, u "PLAIN_SQL_NAME"), (21, .methodref 264 265), (0, .class_ 266), (0, .nameAndType 267 268), (0, u "java/lang/Math"), (0, u "max"), (0, u "(II)I"), (62, .class_ 333), (1, u "com/example/bounded_fetch/boundedfetch/FieldMetadata$JoinTable"), (48, .class_ 383), (0, u "java/io/Serializable"), (0, u "serialVersionUID"), (0, u "J"), (3, u "NO_RECURSION_LIMIT"), (1, u "DEFAULT_RECURSION_DEPTH"), (21, u "deeper")] 81

def k4c0 : Code := { maxStack := 2, maxLocals := 2, code := prog_13_method_23_code, exceptionTable := #[], attributes := #[] }
def k4m0 : Method := { name := "deeper", desc := "(II)I", sig := { parameters := [.int, .int], returnType := some .int }, accessFlags := 8, code := some k4c0 }
/-- com/example/bounded_fetch/boundedfetch/FieldMetadata -/
def k4 : Class := { plain "com/example/bounded_fetch/boundedfetch/FieldMetadata" (some 0) with
  accessFlags := 49
  interfaces := #[3]
  cf := some (fileOf pool4 8 #[.nestMembers #[13, 331]] #[{ accessFlags := 8, nameIndex := 413, descriptorIndex := 268, attributes := #[] }] 49 2 #[382] #[{ accessFlags := 26, nameIndex := 384, descriptorIndex := 385, attributes := #[] }, { accessFlags := 24, nameIndex := 389, descriptorIndex := 157, attributes := #[] }, { accessFlags := 24, nameIndex := 391, descriptorIndex := 157, attributes := #[] }, { accessFlags := 26, nameIndex := 208, descriptorIndex := 209, attributes := #[] }, { accessFlags := 26, nameIndex := 241, descriptorIndex := 209, attributes := #[] }, { accessFlags := 26, nameIndex := 194, descriptorIndex := 195, attributes := #[] }, { accessFlags := 18, nameIndex := 11, descriptorIndex := 12, attributes := #[] }, { accessFlags := 18, nameIndex := 36, descriptorIndex := 37, attributes := #[] }, { accessFlags := 18, nameIndex := 40, descriptorIndex := 49, attributes := #[] }, { accessFlags := 18, nameIndex := 52, descriptorIndex := 56, attributes := #[] }, { accessFlags := 18, nameIndex := 74, descriptorIndex := 12, attributes := #[] }, { accessFlags := 18, nameIndex := 63, descriptorIndex := 56, attributes := #[] }, { accessFlags := 18, nameIndex := 66, descriptorIndex := 49, attributes := #[] }, { accessFlags := 18, nameIndex := 130, descriptorIndex := 131, attributes := #[] }, { accessFlags := 18, nameIndex := 77, descriptorIndex := 12, attributes := #[] }, { accessFlags := 18, nameIndex := 119, descriptorIndex := 120, attributes := #[] }, { accessFlags := 18, nameIndex := 144, descriptorIndex := 56, attributes := #[] }, { accessFlags := 18, nameIndex := 147, descriptorIndex := 157, attributes := #[] }])
  fields := #[{ name := "serialVersionUID", type := .long, accessFlags := 26, slot := 0, constantValue := 0 }, { name := "NO_RECURSION_LIMIT", type := .int, accessFlags := 24, slot := 1, constantValue := 0 }, { name := "DEFAULT_RECURSION_DEPTH", type := .int, accessFlags := 24, slot := 2, constantValue := 0 }, { name := "RECURSION_DEPTH", type := (.object "java/util/regex/Pattern"), accessFlags := 26, slot := 3, constantValue := 0 }, { name := "PLAIN_SQL_NAME", type := (.object "java/util/regex/Pattern"), accessFlags := 26, slot := 4, constantValue := 0 }, { name := "COLLECTIONS", type := (.object "java/util/Map"), accessFlags := 26, slot := 5, constantValue := 0 }, { name := "owner", type := (.object "java/lang/Class"), accessFlags := 18, slot := 0, constantValue := 0 }, { name := "javaField", type := (.object "com/example/bounded_fetch/boundedfetch/FieldMetadata$JavaField"), accessFlags := 18, slot := 1, constantValue := 0 }, { name := "column", type := (.object "java/lang/String"), accessFlags := 18, slot := 2, constantValue := 0 }, { name := "primaryKey", type := .boolean, accessFlags := 18, slot := 3, constantValue := 0 }, { name := "referencedType", type := (.object "java/lang/Class"), accessFlags := 18, slot := 4, constantValue := 0 }, { name := "toMany", type := .boolean, accessFlags := 18, slot := 5, constantValue := 0 }, { name := "mappedBy", type := (.object "java/lang/String"), accessFlags := 18, slot := 6, constantValue := 0 }, { name := "joinTable", type := (.object "com/example/bounded_fetch/boundedfetch/FieldMetadata$JoinTable"), accessFlags := 18, slot := 7, constantValue := 0 }, { name := "valueClass", type := (.object "java/lang/Class"), accessFlags := 18, slot := 8, constantValue := 0 }, { name := "valueType", type := (.object "com/example/bounded_fetch/boundedfetch/ValueType"), accessFlags := 18, slot := 9, constantValue := 0 }, { name := "inDefaultGroup", type := .boolean, accessFlags := 18, slot := 10, constantValue := 0 }, { name := "recursionDepth", type := .int, accessFlags := 18, slot := 11, constantValue := 0 }]
  methods := #[k4m0]
  instanceTypes := #[(.object "java/lang/Class"), (.object "com/example/bounded_fetch/boundedfetch/FieldMetadata$JavaField"), (.object "java/lang/String"), .boolean, (.object "java/lang/Class"), .boolean, (.object "java/lang/String"), (.object "com/example/bounded_fetch/boundedfetch/FieldMetadata$JoinTable"), (.object "java/lang/Class"), (.object "com/example/bounded_fetch/boundedfetch/ValueType"), .boolean, .int]
  staticTypes := #[.long, .int, .int, (.object "java/util/regex/Pattern"), (.object "java/util/regex/Pattern"), (.object "java/util/Map")]
  resolved := Array.replicate 495 none
  statics := none }

def pool5 : Array CpInfo := pool [(1, u "java/lang/Cloneable"), (0, .class_ 1), (0, u "java/lang/Object"), (0, .class_ 3)] 3

/-- java/lang/Cloneable -/
def k5 : Class := { plain "java/lang/Cloneable" (some 0) with
  accessFlags := 1537
  interfaces := #[]
  cf := some (fileOf pool5 2 #[] #[] 1537 4 #[] #[])
  fields := #[]
  methods := #[]
  instanceTypes := #[]
  staticTypes := #[]
  resolved := Array.replicate 8 none
  statics := none }

/-- the primitive byte -/
def k6 : Class := { plain "byte" none with kind := .primitive 'B', accessFlags := 0x411 }
/-- [B -/
def k7 : Class := { plain "[B" (some 0) with kind := .array 6 .byte, interfaces := #[5, 3], accessFlags := 1041 }

def heap : Heap := #[]
def classes : Array Class := #[k0, k1, k2, k3, k4, k5, k6, k7]
def interned : List (Array UInt16 × Addr) := []
def slotsUsed : Nat := 0
def theMethod : MethodId := ⟨1, 3⟩
def args0 : Array Value := #[.int 5, .int 300, .int 2]
def aboutOver (below : List Frame) : State where
  vm := { classes := classes, interned := interned.toArray }
  heap := heap
  slotsUsed := slotsUsed
  threads := #[{ frames := .invoking theMethod args0 :: below }]
def below0 : List Frame := [.native { method := ⟨0, 0⟩, args := #[] }]
def about1 : State := aboutOver below0
def p0 : Program := .bare "" "" ""
def e0 : Env := launch0.env 0 0 0
theorem w_frames : about1.frames = Frame.invoking theMethod args0 :: below0 := rfl
set_option maxRecDepth 65536 in
theorem w_args : argsFit about1.vm theMethod args0 = true := by decide +kernel
set_option maxRecDepth 65536 in
theorem w_heap : heapFits about1 = true := by decide +kernel
set_option maxRecDepth 65536 in
theorem w_runnable : about1.curStatus? = some .runnable := by decide +kernel
set_option maxRecDepth 65536 in
theorem w_alone : about1.alone = true := by decide +kernel
set_option maxRecDepth 65536 in
theorem w_named : about1.methodNamed? x = some theMethod := by decide +kernel
set_option maxRecDepth 65536 in
theorem w_hears : about1.hears theMethod below0 = true := by decide +kernel
set_option maxRecDepth 65536 in
theorem w_ripe : about1.ripe theMethod args0 below0 = true := by decide +kernel
theorem w_running : about1.status = .running := rfl
set_option maxRecDepth 65536 in
theorem w_room : about1.hasRoom e0.platform room_1 = true :=
  launch0.hasRoom_least _ room_1 (by decide +kernel) (by decide +kernel) (by decide +kernel) (by decide +kernel) (by decide +kernel) (by decide +kernel)
theorem allAtoms_all (ts : List Jvm.Cond) (a : Array Jvm.Value) (st : Jvm.State) : (allAtoms ts).before a st = ts.all (fun c => c.before a st) := by
  induction ts with
  | nil => rfl
  | cons c t ih =>
    show (Jvm.Cond.and c (allAtoms t)).before a st = _
    rw [Jvm.Cond.before_and, ih, List.all_cons]
def words1 : List Jvm.Cond := Jvm.Cond.code x code maxLocals ret :: tables_1
/-- a 'code' word, met by the world's own term for the bytes: nothing is compared byte by byte -/
theorem code_word {y : MethodName} {bytes : ByteArray} {mx : Nat} {rt : Option FieldType} {a : Array Value} {s : State} {m : MethodId} {meth : Method} {c : Code} (h1 : s.methodNamed? y = some m) (h2 : s.vm.method? m = some meth) (h3 : meth.code = some c) (h4 : c.code = bytes)
    (h5 : (c.maxLocals == mx && c.exceptionTable.isEmpty && decide (c.maxStack ≤ mostOperands) && decide (meth.sig.returnType = rt) && !meth.locks && decide (parseMethodDescriptor y.desc = some meth.sig)) = true) : (Jvm.Cond.code y bytes mx rt).before a s = true := by
  simp only [Bool.and_eq_true, beq_iff_eq, Bool.not_eq_true', decide_eq_true_eq] at h5
  obtain ⟨⟨⟨⟨⟨g1, g2⟩, g3⟩, g4⟩, g5⟩, g6⟩ := h5
  simp [Cond.before, Cond.holds, Cond.value, h1, h2, h3, h4, g1, g2, g3, g4, g5, g6]
def isCode : Jvm.Cond → Bool
  | .code _ _ _ _ => true
  | _ => false
theorem all_split {L : List Jvm.Cond} {P : Jvm.Cond → Bool} (h1 : L.all (fun c => isCode c || P c) = true) (h2 : ∀ c ∈ L.filter isCode, P c = true) : L.all P = true := by
  refine List.all_eq_true.mpr fun c hc => ?_
  have h := List.all_eq_true.mp h1 c hc
  rcases Bool.eq_false_or_eq_true (isCode c) with hi | hi
  · exact h2 c (List.mem_filter.mpr ⟨hc, hi⟩)
  · simpa [hi] using h
set_option maxRecDepth 65536 in
theorem w_c0 : (Jvm.Cond.code x code maxLocals ret).before args0 about1 = true := code_word (m := ⟨1, 3⟩) (meth := k1m3) (c := k1c3) (by decide +kernel) rfl rfl rfl (by decide +kernel)
set_option maxRecDepth 65536 in
theorem w_c1 : (Jvm.Cond.code ({ cls := "com/example/bounded_fetch/boundedfetch/FieldMetadataDeeperPinLaw", name := "depthOf", desc := "(II)I" } : Jvm.MethodName) method_2_code (2 : Nat) (Option.some Jvm.ClassFile.FieldType.int)).before args0 about1 = true := code_word (m := ⟨1, 1⟩) (meth := k1m1) (c := k1c1) (by decide +kernel) rfl rfl rfl (by decide +kernel)
set_option maxRecDepth 65536 in
theorem w_c2 : (Jvm.Cond.code ({ cls := "java/lang/Math", name := "max", desc := "(II)I" } : Jvm.MethodName) jdk_29_method_65_code (2 : Nat) (Option.some Jvm.ClassFile.FieldType.int)).before args0 about1 = true := code_word (m := ⟨2, 1⟩) (meth := k2m1) (c := k2c1) (by decide +kernel) rfl rfl rfl (by decide +kernel)
set_option maxRecDepth 65536 in
theorem w_c3 : (Jvm.Cond.code ({ cls := "com/example/bounded_fetch/boundedfetch/FieldMetadata", name := "deeper", desc := "(II)I" } : Jvm.MethodName) prog_13_method_23_code (2 : Nat) (Option.some Jvm.ClassFile.FieldType.int)).before args0 about1 = true := code_word (m := ⟨4, 0⟩) (meth := k4m0) (c := k4c0) (by decide +kernel) rfl rfl rfl (by decide +kernel)
set_option maxRecDepth 65536 in
theorem w_c4 : (Jvm.Cond.code ({ cls := "com/example/bounded_fetch/boundedfetch/FieldMetadataDeeperPinLaw", name := "rank", desc := "(I)J" } : Jvm.MethodName) method_3_code (1 : Nat) (Option.some Jvm.ClassFile.FieldType.long)).before args0 about1 = true := code_word (m := ⟨1, 2⟩) (meth := k1m2) (c := k1c2) (by decide +kernel) rfl rfl rfl (by decide +kernel)
set_option maxRecDepth 65536 in
theorem w_c5 : (Jvm.Cond.code ({ cls := "java/lang/Math", name := "max", desc := "(JJ)J" } : Jvm.MethodName) jdk_29_method_66_code (4 : Nat) (Option.some Jvm.ClassFile.FieldType.long)).before args0 about1 = true := code_word (m := ⟨2, 2⟩) (meth := k2m2) (c := k2c2) (by decide +kernel) rfl rfl rfl (by decide +kernel)
def codes1 : List Jvm.Cond := [Jvm.Cond.code x code maxLocals ret, Jvm.Cond.code ({ cls := "com/example/bounded_fetch/boundedfetch/FieldMetadataDeeperPinLaw", name := "depthOf", desc := "(II)I" } : Jvm.MethodName) method_2_code (2 : Nat) (Option.some Jvm.ClassFile.FieldType.int), Jvm.Cond.code ({ cls := "java/lang/Math", name := "max", desc := "(II)I" } : Jvm.MethodName) jdk_29_method_65_code (2 : Nat) (Option.some Jvm.ClassFile.FieldType.int), Jvm.Cond.code ({ cls := "com/example/bounded_fetch/boundedfetch/FieldMetadata", name := "deeper", desc := "(II)I" } : Jvm.MethodName) prog_13_method_23_code (2 : Nat) (Option.some Jvm.ClassFile.FieldType.int), Jvm.Cond.code ({ cls := "com/example/bounded_fetch/boundedfetch/FieldMetadataDeeperPinLaw", name := "rank", desc := "(I)J" } : Jvm.MethodName) method_3_code (1 : Nat) (Option.some Jvm.ClassFile.FieldType.long), Jvm.Cond.code ({ cls := "java/lang/Math", name := "max", desc := "(JJ)J" } : Jvm.MethodName) jdk_29_method_66_code (4 : Nat) (Option.some Jvm.ClassFile.FieldType.long)]
set_option maxRecDepth 65536 in
theorem codes_eq : words1.filter isCode = codes1 := rfl
theorem w_codes : ∀ c ∈ words1.filter isCode, c.before args0 about1 = true := by
  rw [codes_eq]
  intro c hc
  simp only [codes1, List.mem_cons, List.not_mem_nil, or_false] at hc
  rcases hc with rfl | rfl | rfl | rfl | rfl | rfl
  · exact w_c0
  · exact w_c1
  · exact w_c2
  · exact w_c3
  · exact w_c4
  · exact w_c5
set_option maxRecDepth 65536 in
theorem w_t1 : words1.all (fun c => isCode c || c.before args0 about1) = true := by decide +kernel
theorem w_tables : (allAtoms (Jvm.Cond.code x code maxLocals ret :: tables_1)).before args0 about1 = true := by
  rw [allAtoms_all]
  show words1.all (fun c => c.before args0 about1) = true
  refine all_split ?_ w_codes
  rw [w_t1]
set_option maxRecDepth 65536 in
theorem w_case : (Jvm.Cond.and given_1 narrow_1).before args0 about1 = true := by decide +kernel
theorem w_applies : (headSpec (Jvm.Cond.code x code maxLocals ret :: tables_1) room_1).applies x e0.platform about1 = true :=
  (Spec.applies_iff w_frames).mpr ⟨w_running, w_runnable, w_alone, w_named, w_hears, w_ripe, w_room, w_tables⟩
theorem atStart : AtStart classFile x code maxLocals ret World_1 tables_1 room_1 Calls_1 rest_1 Pre_1 launch0 p0 e0 about1 theMethod args0 below0 :=
  ⟨lists_1, trivial, launch0.admits_env _ _ _, launch0.least_env, fairChoices_fair.cas, fairChoices_fair.clock, w_frames, w_args, w_heap, w_applies, trivial, trivial, w_case⟩
end start1
theorem witness_1 : WitnessClaimed_1 := ⟨start1.p0, start1.e0, start1.about1, start1.theMethod, start1.args0, start1.below0, start1.atStart⟩
end Jvm.Pilot.@@N@@
