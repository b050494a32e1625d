import JvmDerived
import JvmDerived.Pilot.@@N@@Statement
import JvmDerived.Pilot.@@N@@Code
set_option linter.unusedVariables false
set_option linter.unusedSimpArgs false
namespace Jvm.RoadKit
open Sem ClassFile Op Lib Jvm.Stand Jvm.Free Jvm.LawKit
section New
variable {p : Program} {l : Launch} {e : Env} {R : Room} {s : State} {m : MethodId} {args : Array Value} {below : List Frame} {meth : Method} {c : Code} {T : State} {locs : List Loc} {cells slots : Nat}
theorem retI (X : Stand p l e R s m args below meth c T locs cells slots) (hx : p.tables.exec = Jvm.exec) {pc : Nat} {Ls : Array Slot} {z : Int32} {rest : List Value} (hret : meth.sig.returnType = some .int) (hd : decode c.code pc = .ok (.ireturn, 1)) {fs : List Frame}
    (hl : ∀ (f : JFrame) (acts : List Action), f.method = m → f.locked = none → f.entered = [] → (doReturn e (T.setTop f) acts (some (.int z))).1 = T.setFrames fs) : Steps p.tables e below (T.setTop (mkF m pc Ls (.int z :: rest))) (T.setFrames fs) := by
  have hm' : T.vm.method? m = some meth := X.method'
  have hn : narrow .int (.int z) = .int z := rfl
  show Steps p.tables e below (T.setTop { method := m, pc := pc, locals := Ls, stack := _ :: rest, locked := none }) _
  jvm_step X.here [X.here.top, hx, hd, hm', hret, hn]
  first | (intro acts; rw [hl _ acts rfl rfl rfl]) | rw [hl _ _ rfl rfl rfl]
  exact Steps.refl _
theorem retJ (X : Stand p l e R s m args below meth c T locs cells slots) (hx : p.tables.exec = Jvm.exec) {pc : Nat} {Ls : Array Slot} {z : Int64} {rest : List Value} (hret : meth.sig.returnType = some .long) (hd : decode c.code pc = .ok (.lreturn, 1)) {fs : List Frame}
    (hl : ∀ (f : JFrame) (acts : List Action), f.method = m → f.locked = none → f.entered = [] → (doReturn e (T.setTop f) acts (some (.long z))).1 = T.setFrames fs) : Steps p.tables e below (T.setTop (mkF m pc Ls (.long z :: rest))) (T.setFrames fs) := by
  have hm' : T.vm.method? m = some meth := X.method'
  have hn : narrow .long (.long z) = .long z := rfl
  show Steps p.tables e below (T.setTop { method := m, pc := pc, locals := Ls, stack := _ :: rest, locked := none }) _
  jvm_step X.here [X.here.top, hx, hd, hm', hret, hn]
  first | (intro acts; rw [hl _ acts rfl rfl rfl]) | rw [hl _ _ rfl rfl rfl]
  exact Steps.refl _
end New
end Jvm.RoadKit
namespace Jvm.Pilot.@@N@@
open Jvm Jvm.ClassFile Sem Op Lib Jvm.Free Jvm.Stand Jvm.LawKit Jvm.RoadKit Bundle Jvm.Pilot.@@N@@.Jvm.D
def QV (w : Value) (h0 : Heap) (n0 : Nat) (v : Option Value) (h : Heap) (L : List Loc) : Prop := v = some w ∧ Fr n0 L ∧ h = h0
theorem own_wmono {s t : State} {o : Outcome} {L : List Loc} {k n k' n' : Nat} (h : ReturnedEndW s o t L k n) (hk : k ≤ k') (hn : n ≤ n') : ReturnedEndW s o t L k' n' := ⟨h.1, h.2.1, h.2.2.1, h.2.2.2.mono hk hn⟩
def QN (h0 : Heap) (n0 : Nat) (v : Option Value) (h : Heap) (L : List Loc) : Prop := v = none ∧ Fr n0 L ∧ h = h0
def QA (w : Value) (h0 : Heap) (n0 : Nat) (v : Option Value) (h : Heap) (L : List Loc) : Prop := v = some w ∧ Fr n0 L ∧ Keep h0 h []
def QC (Z : State) (b : Addr) (x y : Int64) (h0 : Heap) (n0 : Nat) (v : Option Value) (h : Heap) (L : List Loc) : Prop := v = none ∧ Fr n0 L ∧ Keep h0 h [b] ∧ Exa Z h b "com/example/chongshi/chongshi/DuePage$Cursor" ∧ Fld Z h b "com/example/chongshi/chongshi/DuePage$Cursor" "dueMillis" "J" (.long x) ∧ Fld Z h b "com/example/chongshi/chongshi/DuePage$Cursor" "id" "J" (.long y)
theorem d2_0 : decode jdk_30_method_1_code 0 = .ok (.aload_n 0, 1) := by decide +kernel
theorem d2_1 : decode jdk_30_method_1_code 1 = .ok (.invokespecial 1, 3) := by decide +kernel
theorem d2_4 : decode jdk_30_method_1_code 4 = .ok (.return_, 1) := by decide +kernel
theorem pn_2 : plainName "java/lang/Record" = true := by first | (simp [plainName, overriddenIn]; done) | decide +kernel
theorem ef_2 (m : MethodId) (x0 : Addr) : entryFrame m #[(.ref x0)] 1 = mkF m 0 #[.val (.ref x0)] [] := by first | (simp [entryFrame, mkF, argsToLocals, Value.category]; done) | rfl
set_option maxRecDepth 65536 in
set_option maxHeartbeats 40000000 in
theorem rm2 (l : Launch) (Z : State) (a0 : Array Value) (hw : ∀ d ∈ tables_1, d.before a0 Z = true) (ws : List Jvm.Cond) (a1 : Addr) (h0 : Heap) (n0 : Nat) (Z0 : n0 ≤ h0.size) :
    MetFree l (⟨"java/lang/Record", "<init>", "()V"⟩ : MethodName) (head1 (Jvm.Cond.code (⟨"java/lang/Record", "<init>", "()V"⟩ : MethodName) jdk_30_method_1_code 1 none :: ws) ({ frames := 1, cells := 0, slots := 0, locals := 12 } : Room)) (fun a U => a = #[(.ref a1)] ∧ Z.Warmed39 U.vm ∧ U.heap = h0) (fun _ _ _ _ _ => True) (fun _ U o U' => ∃ v L, o = .returned v ∧ QN h0 n0 v U'.heap L ∧ FrameEnd U o U' L ({ frames := 1, cells := 0, slots := 0, locals := 12 } : Room).cells ({ frames := 1, cells := 0, slots := 0, locals := 12 } : Room).slots) := by
  refine MetFree.of_bodySF (plainFor_of_name pn_2) hisR ?_
  intro p e s m args below meth c s₁ Bd hml0 hP hK
  obtain ⟨rfl, hZ, hh⟩ := hP
  have hx := Bd.exec
  have hby := Bd.bytes
  have hml : c.maxLocals = 1 := hml0
  have hown : s.vm.findClass "java/lang/Record" = some m.cls := findClass_of_methodNamed Bd.named
  have hnm := (name_of_methodNamed Bd.named Bd.method).1
  have X0 : Stand p l e ({ frames := 1, cells := 0, slots := 0, locals := 12 } : Room) s m #[(.ref a1)] below meth c s₁ [] 0 0 := Stand.of_body Bd
  have e0 : s₁.heap = h0 := by rw [← hh, Bd.state]; rfl
  have N0 := Fr.nil n0
  have pre0 : ∀ t, Steps p.tables e below (s₁.setTop (mkF m 0 #[.val (.ref a1)] [])) t → Steps p.tables e below (s₁.setTop (entryFrame m #[(.ref a1)] 1)) t := fun t k => castTop (ef_2 m a1) k
  -- 3. LAWS
  obtain ⟨T2, X2, e2, st2⟩ := initO X0 hx hZ hown (hw _ (List.mem_of_getElem? (i := 11) rfl)) (hw _ (List.mem_of_getElem? (i := 12) rfl)) (hw _ (List.mem_of_getElem? (i := 13) rfl)) e0 (g := (mkF m 1 #[.val (.ref a1)] [(.ref a1)])) rfl (by rw [hml]; rfl) rfl (hb hby d2_1) (by decide) (W := 0) (by show 2 * 0 + _ ≤ _; exact Nat.le_of_eq rfl) (by decide)
  obtain ⟨fs, hr, hrun, hended, hW, hsame⟩ := X2.leave (v := none) (fun _ => rfl)
  refine ⟨_, _, pre0 _ ?_, hrun, hended, _, _, rfl, ?_, ⟨_, rfl⟩, hW, hsame.mono (by decide) (by decide)⟩
  -- 4. STEPS
  · show Steps p.tables e below (s₁.setTop (mkF m 0 #[.val (.ref a1)] [])) _
    refine XS.aloadN X0.here hx rfl (hb hby d2_0) rfl rfl ?_
    show Steps p.tables e below (s₁.setTop (mkF m 1 #[.val (.ref a1)] [(.ref a1)])) _
    refine st2 _ ?_
    show Steps p.tables e below (T2.setTop (mkF m 4 #[.val (.ref a1)] [])) _
    exact X2.returnOut hx Bd.returns (hb hby d2_4) hr
  · show QN h0 n0 _ T2.heap _
    rw [e2]
    exact ⟨rfl, N0, rfl⟩
theorem d5_0 : decode jdk_31_method_11_code 0 = .ok (.aload_n 0, 1) := by decide +kernel
theorem d5_1 : decode jdk_31_method_11_code 1 = .ok (.ifnonnull 12, 3) := by decide +kernel
theorem d5_13 : decode jdk_31_method_11_code 13 = .ok (.aload_n 0, 1) := by decide +kernel
theorem d5_14 : decode jdk_31_method_11_code 14 = .ok (.areturn, 1) := by decide +kernel
theorem pn_5 : plainName "java/util/Objects" = true := by first | (simp [plainName, overriddenIn]; done) | decide +kernel
theorem ef_5 (m : MethodId) (x0 : Addr) (x1 : Addr) : entryFrame m #[(.ref x0), (.ref x1)] 2 = mkF m 0 #[.val (.ref x0), .val (.ref x1)] [] := by first | (simp [entryFrame, mkF, argsToLocals, Value.category]; done) | rfl
set_option maxRecDepth 65536 in
set_option maxHeartbeats 40000000 in
theorem rm5 (l : Launch) (Z : State) (a0 : Array Value) (hw : ∀ d ∈ tables_1, d.before a0 Z = true) (ws : List Jvm.Cond) (a1 : Addr) (a2 : Addr) (h0 : Heap) (n0 : Nat) (Z0 : n0 ≤ h0.size) :
    MetFree l (⟨"java/util/Objects", "requireNonNull", "(Ljava/lang/Object;Ljava/lang/String;)Ljava/lang/Object;"⟩ : MethodName) (head1 (Jvm.Cond.code (⟨"java/util/Objects", "requireNonNull", "(Ljava/lang/Object;Ljava/lang/String;)Ljava/lang/Object;"⟩ : MethodName) jdk_31_method_11_code 2 (some (.object "java/lang/Object")) :: ws) ({ frames := 0, cells := 0, slots := 0, locals := 0 } : Room)) (fun a U => a = #[(.ref a1), (.ref a2)] ∧ Z.Warmed39 U.vm ∧ U.heap = h0) (fun _ _ _ _ _ => True) (fun _ U o U' => ∃ v L, o = .returned v ∧ QV (.ref a1) h0 n0 v U'.heap L ∧ FrameEnd U o U' L ({ frames := 0, cells := 0, slots := 0, locals := 0 } : Room).cells ({ frames := 0, cells := 0, slots := 0, locals := 0 } : Room).slots) := by
  refine MetFree.of_bodySF (plainFor_of_name pn_5) hisR ?_
  intro p e s m args below meth c s₁ Bd hml0 hP hK
  obtain ⟨rfl, hZ, hh⟩ := hP
  have hx := Bd.exec
  have hby := Bd.bytes
  have hml : c.maxLocals = 2 := hml0
  have hown : s.vm.findClass "java/util/Objects" = some m.cls := findClass_of_methodNamed Bd.named
  have hnm := (name_of_methodNamed Bd.named Bd.method).1
  have X0 : Stand p l e ({ frames := 0, cells := 0, slots := 0, locals := 0 } : Room) s m #[(.ref a1), (.ref a2)] below meth c s₁ [] 0 0 := Stand.of_body Bd
  have e0 : s₁.heap = h0 := by rw [← hh, Bd.state]; rfl
  have N0 := Fr.nil n0
  have pre0 : ∀ t, Steps p.tables e below (s₁.setTop (mkF m 0 #[.val (.ref a1), .val (.ref a2)] [])) t → Steps p.tables e below (s₁.setTop (entryFrame m #[(.ref a1), (.ref a2)] 2)) t := fun t k => castTop (ef_5 m a1 a2) k
  -- 3. LAWS
  obtain ⟨fs, hr, hrun, hended, hW, hsame⟩ := X0.leave (v := some (.ref a1)) (fun h => by rw [Bd.returns] at h; cases h)
  refine ⟨_, _, pre0 _ ?_, hrun, hended, _, _, rfl, ?_, ⟨_, rfl⟩, hW, hsame.mono (by decide) (by decide)⟩
  -- 4. STEPS
  · show Steps p.tables e below (s₁.setTop (mkF m 0 #[.val (.ref a1), .val (.ref a2)] [])) _
    refine XS.aloadN X0.here hx rfl (hb hby d5_0) rfl rfl ?_
    show Steps p.tables e below (s₁.setTop (mkF m 1 #[.val (.ref a1), .val (.ref a2)] [(.ref a1)])) _
    refine XS.ifnonnullYes X0.here hx rfl (pc0 := 1) (pc' := 13) rfl (hb hby d5_1) rfl (by decide) (by decide) ?_
    show Steps p.tables e below (s₁.setTop (mkF m 13 #[.val (.ref a1), .val (.ref a2)] [])) _
    refine XS.aloadN X0.here hx rfl (hb hby d5_13) rfl rfl ?_
    show Steps p.tables e below (s₁.setTop (mkF m 14 #[.val (.ref a1), .val (.ref a2)] [(.ref a1)])) _
    jvm_step X0.here [X0.here.top, hx, (hb hby d5_14), X0.method', Bd.returns, Value.isRef, FieldType.isReference]
    first | (intro acts; rw [hr _ acts rfl rfl rfl]) | rw [hr _ _ rfl rfl rfl]
    exact Steps.refl _
  · show QV (.ref a1) h0 n0 _ s₁.heap _
    rw [e0]
    exact ⟨rfl, N0, rfl⟩
theorem d1_0 : decode prog_3_method_1_code 0 = .ok (.aload_n 0, 1) := by decide +kernel
theorem d1_1 : decode prog_3_method_1_code 1 = .ok (.invokespecial 1, 3) := by decide +kernel
theorem d1_4 : decode prog_3_method_1_code 4 = .ok (.aload_n 0, 1) := by decide +kernel
theorem d1_5 : decode prog_3_method_1_code 5 = .ok (.lload_n 1, 1) := by decide +kernel
theorem d1_6 : decode prog_3_method_1_code 6 = .ok (.putfield 7, 3) := by decide +kernel
theorem d1_9 : decode prog_3_method_1_code 9 = .ok (.aload_n 0, 1) := by decide +kernel
theorem d1_10 : decode prog_3_method_1_code 10 = .ok (.lload_n 3, 1) := by decide +kernel
theorem d1_11 : decode prog_3_method_1_code 11 = .ok (.putfield 13, 3) := by decide +kernel
theorem d1_14 : decode prog_3_method_1_code 14 = .ok (.return_, 1) := by decide +kernel
theorem pn_1 : plainName "com/example/chongshi/chongshi/DuePage$Cursor" = true := by first | (simp [plainName, overriddenIn]; done) | decide +kernel
theorem pd_1_1 : parseMethodDescriptor "()V" = some ⟨[], none⟩ := by decide +kernel
theorem ef_1 (m : MethodId) (x0 : Addr) (x1 : Int64) (x2 : Int64) : entryFrame m #[(.ref x0), (.long x1), (.long x2)] 5 = mkF m 0 #[.val (.ref x0), .val (.long x1), .second, .val (.long x2), .second] [] := by first | (simp [entryFrame, mkF, argsToLocals, Value.category]; done) | rfl
set_option maxRecDepth 65536 in
set_option maxHeartbeats 40000000 in
theorem rm1 (l : Launch) (Z : State) (a0 : Array Value) (hw : ∀ d ∈ tables_1, d.before a0 Z = true) (ws : List Jvm.Cond) (a1 : Addr) (q2 : Int64) (q3 : Int64) (u_dueMillis_a1 : Value) (u_id_a1 : Value) (h0 : Heap) (n0 : Nat) (Z0 : n0 ≤ h0.size) (E_a1 : Exa Z h0 a1 "com/example/chongshi/chongshi/DuePage$Cursor") (F_dueMillis_a1 : Fld Z h0 a1 "com/example/chongshi/chongshi/DuePage$Cursor" "dueMillis" "J" u_dueMillis_a1) (g_a1 : n0 ≤ a1) (F_id_a1 : Fld Z h0 a1 "com/example/chongshi/chongshi/DuePage$Cursor" "id" "J" u_id_a1) :
    MetFree l (⟨"com/example/chongshi/chongshi/DuePage$Cursor", "<init>", "(JJ)V"⟩ : MethodName) (head1 (Jvm.Cond.code (⟨"com/example/chongshi/chongshi/DuePage$Cursor", "<init>", "(JJ)V"⟩ : MethodName) prog_3_method_1_code 5 none :: ws) ({ frames := 2, cells := 0, slots := 0, locals := 24 } : Room)) (fun a U => a = #[(.ref a1), (.long q2), (.long q3)] ∧ Z.Warmed39 U.vm ∧ U.heap = h0) (fun _ _ _ _ _ => True) (fun _ U o U' => ∃ v L, o = .returned v ∧ QC Z a1 q2 q3 h0 n0 v U'.heap L ∧ FrameEnd U o U' L ({ frames := 2, cells := 0, slots := 0, locals := 24 } : Room).cells ({ frames := 2, cells := 0, slots := 0, locals := 24 } : Room).slots) := by
  refine MetFree.of_bodySF (plainFor_of_name pn_1) hisR ?_
  intro p e s m args below meth c s₁ Bd hml0 hP hK
  obtain ⟨rfl, hZ, hh⟩ := hP
  have hx := Bd.exec
  have hby := Bd.bytes
  have hml : c.maxLocals = 5 := hml0
  have hown : s.vm.findClass "com/example/chongshi/chongshi/DuePage$Cursor" = some m.cls := findClass_of_methodNamed Bd.named
  have hnm := (name_of_methodNamed Bd.named Bd.method).1
  have X0 : Stand p l e ({ frames := 2, cells := 0, slots := 0, locals := 24 } : Room) s m #[(.ref a1), (.long q2), (.long q3)] below meth c s₁ [] 0 0 := Stand.of_body Bd
  have e0 : s₁.heap = h0 := by rw [← hh, Bd.state]; rfl
  have N0 := Fr.nil n0
  have pre0 : ∀ t, Steps p.tables e below (s₁.setTop (mkF m 0 #[.val (.ref a1), .val (.long q2), .second, .val (.long q3), .second] [])) t → Steps p.tables e below (s₁.setTop (entryFrame m #[(.ref a1), (.long q2), (.long q3)] 5)) t := fun t k => castTop (ef_1 m a1 q2 q3) k
  -- 3. LAWS
  -- pc 1: the constructor of java/lang/Record by its contract rm2
  obtain ⟨_, _, ⟨T4, L4, k4, n4⟩, -, X4, ⟨Lc4, hQ4, l4, y4, z4⟩, st4⟩ := X0.specialBack hx (y := (⟨"java/lang/Record", "<init>", "()V"⟩ : MethodName)) rfl hown (mvT hZ (hw _ (List.mem_of_getElem? (i := 6) rfl))) (mvT hZ (hw _ (List.mem_of_getElem? (i := 7) rfl))) (mvT hZ (hw _ (List.mem_of_getElem? (i := 10) rfl))) (by decide) (backOf (W := 0) (rm2 l Z a0 hw [] a1 h0 n0 Z0) hZ (hw _ (List.mem_of_getElem? (i := 10) rfl)) (hw _ (List.mem_of_getElem? (i := 9) rfl)) (by decide) (by decide)) (g := (mkF m 1 #[.val (.ref a1), .val (.long q2), .second, .val (.long q3), .second] [(.ref a1)])) rfl (by rw [hml]; rfl) (Steps.refl _) (a := a1) (argsL := []) (rest := []) (lenOf pd_1_1 rfl) rfl (by show 2 * 0 + _ ≤ _; exact Nat.le_of_eq rfl) (hb hby d1_1) (fun _ _ => ⟨rfl, e0, (by decide : 0 + 0 ≤ _), (by decide : 0 + 0 ≤ _)⟩)
  dsimp only [Pt.U, Pt.locs, Pt.cells, Pt.slots] at X4 l4 y4 z4 st4 hQ4
  subst l4 y4 z4
  obtain ⟨rfl, N4q, eh4⟩ := hQ4
  have N4 := Fr.app N0 N4q
  obtain ⟨T5, h5, X5, e5, W5, st5⟩ := putF X4 hx hZ hown (host := "") (Or.inl (hw _ (List.mem_of_getElem? (i := 14) rfl))) Via.refl eh4 F_dueMillis_a1 E_a1 (Or.inr ⟨(hw _ (List.mem_of_getElem? (i := 15) rfl)), rfl, hnm⟩) (hw _ (List.mem_of_getElem? (i := 1) rfl)) (ty := .long) (by decide) rfl rfl (g := (mkF m 6 #[.val (.ref a1), .val (.long q2), .second, .val (.long q3), .second] [(.long q2), (.ref a1)])) rfl rfl (hb hby d1_6)
  have Fw5 := F_dueMillis_a1.same W5      -- the field now holds (.long q2)
  have K5 : Keep h0 h5 [a1] := (Keep.refl h0 [a1]).wr W5 (Or.inl (List.mem_of_getElem? (i := 0) rfl))
  have N5 := Fr.snoc X5 N4 g_a1
  obtain ⟨T6, h6, X6, e6, W6, st6⟩ := putF X5 hx hZ hown (host := "") (Or.inl (hw _ (List.mem_of_getElem? (i := 16) rfl))) Via.refl e5 (F_id_a1.other W5 (Or.inr (slot_ne (Or.inr (hw _ (List.mem_of_getElem? (i := 17) rfl))) (Or.inr (hw _ (List.mem_of_getElem? (i := 15) rfl))) (by decide) (t := .long) (t' := .long) (by decide) (by decide)))) (E_a1.wr W5) (Or.inr ⟨(hw _ (List.mem_of_getElem? (i := 17) rfl)), rfl, hnm⟩) (hw _ (List.mem_of_getElem? (i := 1) rfl)) (ty := .long) (by decide) rfl rfl (g := (mkF m 11 #[.val (.ref a1), .val (.long q2), .second, .val (.long q3), .second] [(.long q3), (.ref a1)])) rfl rfl (hb hby d1_11)
  have Fw6 := (F_id_a1.other W5 (Or.inr (slot_ne (Or.inr (hw _ (List.mem_of_getElem? (i := 17) rfl))) (Or.inr (hw _ (List.mem_of_getElem? (i := 15) rfl))) (by decide) (t := .long) (t' := .long) (by decide) (by decide)))).same W6      -- the field now holds (.long q3)
  have K6 : Keep h0 h6 [a1] := K5.wr W6 (Or.inl (List.mem_of_getElem? (i := 0) rfl))
  have N6 := Fr.snoc X6 N5 g_a1
  obtain ⟨fs, hr, hrun, hended, hW, hsame⟩ := X6.leave (v := none) (fun _ => rfl)
  refine ⟨_, _, pre0 _ ?_, hrun, hended, _, _, rfl, ?_, ⟨_, rfl⟩, hW, hsame.mono (by decide) (by decide)⟩
  -- 4. STEPS
  · show Steps p.tables e below (s₁.setTop (mkF m 0 #[.val (.ref a1), .val (.long q2), .second, .val (.long q3), .second] [])) _
    refine XS.aloadN X0.here hx rfl (hb hby d1_0) rfl rfl ?_
    show Steps p.tables e below (s₁.setTop (mkF m 1 #[.val (.ref a1), .val (.long q2), .second, .val (.long q3), .second] [(.ref a1)])) _
    refine st4.trans ?_
    show Steps p.tables e below (T4.setTop (mkF m 4 #[.val (.ref a1), .val (.long q2), .second, .val (.long q3), .second] [])) _
    refine XS.aloadN X4.here hx rfl (hb hby d1_4) rfl rfl ?_
    show Steps p.tables e below (T4.setTop (mkF m 5 #[.val (.ref a1), .val (.long q2), .second, .val (.long q3), .second] [(.ref a1)])) _
    refine XS.lloadN X4.here hx rfl (hb hby d1_5) rfl ?_
    show Steps p.tables e below (T4.setTop (mkF m 6 #[.val (.ref a1), .val (.long q2), .second, .val (.long q3), .second] [(.long q2), (.ref a1)])) _
    refine st5 _ ?_
    show Steps p.tables e below (T5.setTop (mkF m 9 #[.val (.ref a1), .val (.long q2), .second, .val (.long q3), .second] [])) _
    refine XS.aloadN X5.here hx rfl (hb hby d1_9) rfl rfl ?_
    show Steps p.tables e below (T5.setTop (mkF m 10 #[.val (.ref a1), .val (.long q2), .second, .val (.long q3), .second] [(.ref a1)])) _
    refine XS.lloadN X5.here hx rfl (hb hby d1_10) rfl ?_
    show Steps p.tables e below (T5.setTop (mkF m 11 #[.val (.ref a1), .val (.long q2), .second, .val (.long q3), .second] [(.long q3), (.ref a1)])) _
    refine st6 _ ?_
    show Steps p.tables e below (T6.setTop (mkF m 14 #[.val (.ref a1), .val (.long q2), .second, .val (.long q3), .second] [])) _
    exact X6.returnOut hx Bd.returns (hb hby d1_14) hr
  · show QC Z a1 q2 q3 h0 n0 _ T6.heap _
    rw [e6]
    exact ⟨rfl, N6, K6, ((E_a1.wr W5).wr W6), (Fw5.other W6 (Or.inr (slot_ne (Or.inr (hw _ (List.mem_of_getElem? (i := 15) rfl))) (Or.inr (hw _ (List.mem_of_getElem? (i := 17) rfl))) (by decide) (t := .long) (t' := .long) (by decide) (by decide)))), Fw6⟩
theorem d4_0 : decode prog_3_method_2_code 0 = .ok (.aload_n 1, 1) := by decide +kernel
theorem d4_1 : decode prog_3_method_2_code 1 = .ok (.ldc 16, 2) := by decide +kernel
theorem d4_3 : decode prog_3_method_2_code 3 = .ok (.invokestatic 18, 3) := by decide +kernel
theorem d4_6 : decode prog_3_method_2_code 6 = .ok (.pop, 1) := by decide +kernel
theorem d4_7 : decode prog_3_method_2_code 7 = .ok (.aload_n 0, 1) := by decide +kernel
theorem d4_8 : decode prog_3_method_2_code 8 = .ok (.getfield 7, 3) := by decide +kernel
theorem d4_11 : decode prog_3_method_2_code 11 = .ok (.aload_n 1, 1) := by decide +kernel
theorem d4_12 : decode prog_3_method_2_code 12 = .ok (.getfield 7, 3) := by decide +kernel
theorem d4_15 : decode prog_3_method_2_code 15 = .ok (.lcmp, 1) := by decide +kernel
theorem d4_16 : decode prog_3_method_2_code 16 = .ok (.ifCond .eq 23, 3) := by decide +kernel
theorem d4_39 : decode prog_3_method_2_code 39 = .ok (.aload_n 0, 1) := by decide +kernel
theorem d4_40 : decode prog_3_method_2_code 40 = .ok (.getfield 13, 3) := by decide +kernel
theorem d4_43 : decode prog_3_method_2_code 43 = .ok (.aload_n 1, 1) := by decide +kernel
theorem d4_44 : decode prog_3_method_2_code 44 = .ok (.getfield 13, 3) := by decide +kernel
theorem d4_47 : decode prog_3_method_2_code 47 = .ok (.lcmp, 1) := by decide +kernel
theorem d4_48 : decode prog_3_method_2_code 48 = .ok (.ifCond .le 7, 3) := by decide +kernel
theorem d4_55 : decode prog_3_method_2_code 55 = .ok (.iconst 0, 1) := by decide +kernel
theorem d4_56 : decode prog_3_method_2_code 56 = .ok (.ireturn, 1) := by decide +kernel
theorem pn_4 : plainName "com/example/chongshi/chongshi/DuePage$Cursor" = true := by first | (simp [plainName, overriddenIn]; done) | decide +kernel
theorem pd_4_3 : parseMethodDescriptor "(Ljava/lang/Object;Ljava/lang/String;)Ljava/lang/Object;" = some ⟨[(.object "java/lang/Object"), (.object "java/lang/String")], some (.object "java/lang/Object")⟩ := by decide +kernel
theorem ef_4 (m : MethodId) (x0 : Addr) (x1 : Addr) : entryFrame m #[(.ref x0), (.ref x1)] 2 = mkF m 0 #[.val (.ref x0), .val (.ref x1)] [] := by first | (simp [entryFrame, mkF, argsToLocals, Value.category]; done) | rfl
set_option maxRecDepth 65536 in
set_option maxHeartbeats 40000000 in
theorem rm4_tt (l : Launch) (Z : State) (a0 : Array Value) (hw : ∀ d ∈ tables_1, d.before a0 Z = true) (ws : List Jvm.Cond) (a1 : Addr) (a2 : Addr) (w5 : Int64) (w7 : Int64) (w9 : Int64) (w11 : Int64) (h0 : Heap) (n0 : Nat) (Z0 : n0 ≤ h0.size) (F_dueMillis_a1 : Fld Z h0 a1 "com/example/chongshi/chongshi/DuePage$Cursor" "dueMillis" "J" (.long w5)) (F_dueMillis_a2 : Fld Z h0 a2 "com/example/chongshi/chongshi/DuePage$Cursor" "dueMillis" "J" (.long w7)) (F_id_a1 : Fld Z h0 a1 "com/example/chongshi/chongshi/DuePage$Cursor" "id" "J" (.long w9)) (F_id_a2 : Fld Z h0 a2 "com/example/chongshi/chongshi/DuePage$Cursor" "id" "J" (.long w11)) (hc16 : (lcmpW w5 w7) = (0 : Int32)) (hc48 : ¬ ((0 : Int32) < (lcmpW w9 w11))) :
    MetFree l (⟨"com/example/chongshi/chongshi/DuePage$Cursor", "isAfter", "(Lcom/example/chongshi/chongshi/DuePage$Cursor;)Z"⟩ : MethodName) (head1 (Jvm.Cond.code (⟨"com/example/chongshi/chongshi/DuePage$Cursor", "isAfter", "(Lcom/example/chongshi/chongshi/DuePage$Cursor;)Z"⟩ : MethodName) prog_3_method_2_code 2 (some .boolean) :: ws) ({ frames := 1, cells := 2, slots := 24, locals := 13 } : Room)) (fun a U => a = #[(.ref a1), (.ref a2)] ∧ Z.Warmed39 U.vm ∧ U.heap = h0) (fun _ _ _ _ _ => True) (fun _ U o U' => ∃ v L, o = .returned v ∧ QA (.int (0 : Int32)) h0 n0 v U'.heap L ∧ ReturnedEndW U o U' L ({ frames := 1, cells := 2, slots := 24, locals := 13 } : Room).cells ({ frames := 1, cells := 2, slots := 24, locals := 13 } : Room).slots) := by
  refine MetFree.of_bodySF (plainFor_of_name pn_4) hisR ?_
  intro p e s m args below meth c s₁ Bd hml0 hP hK
  obtain ⟨rfl, hZ, hh⟩ := hP
  have hx := Bd.exec
  have hby := Bd.bytes
  have hml : c.maxLocals = 2 := hml0
  have hown : s.vm.findClass "com/example/chongshi/chongshi/DuePage$Cursor" = some m.cls := findClass_of_methodNamed Bd.named
  have hnm := (name_of_methodNamed Bd.named Bd.method).1
  have X0 : Stand p l e ({ frames := 1, cells := 2, slots := 24, locals := 13 } : Room) s m #[(.ref a1), (.ref a2)] below meth c s₁ [] 0 0 := Stand.of_body Bd
  have e0 : s₁.heap = h0 := by rw [← hh, Bd.state]; rfl
  have N0 := Fr.nil n0
  have pre0 : ∀ t, Steps p.tables e below (s₁.setTop (mkF m 0 #[.val (.ref a1), .val (.ref a2)] [])) t → Steps p.tables e below (s₁.setTop (entryFrame m #[(.ref a1), (.ref a2)] 2)) t := fun t k => castTop (ef_4 m a1 a2) k
  -- 3. LAWS
  have S0 : s.Since s.vm 0 := (State.WarmedH.refl s).since 0
  have wS : ∀ d ∈ Bundle.stringAtoms, d.before a0 Z = true := fun d hd => hw d ((by decide +kernel : ∀ d ∈ Bundle.stringAtoms, d ∈ tables_1) d hd)
  obtain ⟨sa3, T3, h3, k3, X3, e3, E3, S3, kk3, hZ, hown, st3⟩ := ldcS (s := s) (vm0 := s.vm) X0 hx hZ hown (hw _ (List.mem_of_getElem? (i := 23) rfl)) wS e0 S0 (Nat.zero_le _) (g := (mkF m 1 #[.val (.ref a1), .val (.ref a2)] [(.ref a2)])) rfl (hb hby d4_1) (n := 20) (by decide) (by decide) (by decide) (by decide)
  have K3 : Keep h0 h3 [] := (Keep.refl h0 []).ext E3
  -- pc 3: java/util/Objects.requireNonNull by its contract rm5
  obtain ⟨_, _, ⟨T4, L4, k4, n4⟩, -, X4, ⟨Lc4, hQ4, l4, y4, z4⟩, st4⟩ := Jvm.LawKit.callS X3 hx (y := (⟨"java/util/Objects", "requireNonNull", "(Ljava/lang/Object;Ljava/lang/String;)Ljava/lang/Object;"⟩ : MethodName)) hown (mvT hZ (hw _ (List.mem_of_getElem? (i := 31) rfl))) (mvT hZ (hw _ (List.mem_of_getElem? (i := 32) rfl))) (mvT hZ (hw _ (List.mem_of_getElem? (i := 33) rfl))) (mvT hZ (hw _ (List.mem_of_getElem? (i := 34) rfl))) (by decide) (backOf (W := 0) (rm5 l Z a0 hw [] a2 sa3 h3 n0 (Nat.le_trans Z0 E3.1)) hZ (hw _ (List.mem_of_getElem? (i := 34) rfl)) (hw _ (List.mem_of_getElem? (i := 33) rfl)) (by decide) (by decide)) (g := (mkF m 3 #[.val (.ref a1), .val (.ref a2)] [(.ref sa3), (.ref a2)])) rfl (by rw [hml]; rfl) (argsL := [(.ref a2), (.ref sa3)]) (rest := []) (lenOf pd_4_3 rfl) rfl (by show 2 * 0 + _ ≤ _; exact Nat.le_of_eq rfl) (hb hby d4_3) (fun _ _ => ⟨rfl, e3, (by decide : 2 + 0 ≤ _), (by decide : 24 + 0 ≤ _)⟩)
  dsimp only [Pt.U, Pt.locs, Pt.cells, Pt.slots] at X4 l4 y4 z4 st4 hQ4
  subst l4 y4 z4
  obtain ⟨rfl, N4q, eh4⟩ := hQ4
  have N4 := Fr.app N0 N4q
  obtain ⟨T6, X6, e6, st6⟩ := getF X4 hx hZ hown (host := "") (Or.inl (hw _ (List.mem_of_getElem? (i := 14) rfl))) Via.refl eh4 (F_dueMillis_a1.ext E3) (g := (mkF m 8 #[.val (.ref a1), .val (.ref a2)] [(.ref a1)])) rfl rfl (hb hby d4_8)
  obtain ⟨T8, X8, e8, st8⟩ := getF X6 hx hZ hown (host := "") (Or.inl (hw _ (List.mem_of_getElem? (i := 14) rfl))) Via.refl e6 (F_dueMillis_a2.ext E3) (g := (mkF m 12 #[.val (.ref a1), .val (.ref a2)] [(.ref a2), (.long w5)])) rfl rfl (hb hby d4_12)
  obtain ⟨T10, X10, e10, st10⟩ := getF X8 hx hZ hown (host := "") (Or.inl (hw _ (List.mem_of_getElem? (i := 16) rfl))) Via.refl e8 (F_id_a1.ext E3) (g := (mkF m 40 #[.val (.ref a1), .val (.ref a2)] [(.ref a1)])) rfl rfl (hb hby d4_40)
  obtain ⟨T12, X12, e12, st12⟩ := getF X10 hx hZ hown (host := "") (Or.inl (hw _ (List.mem_of_getElem? (i := 16) rfl))) Via.refl e10 (F_id_a2.ext E3) (g := (mkF m 44 #[.val (.ref a1), .val (.ref a2)] [(.ref a2), (.long w9)])) rfl rfl (hb hby d4_44)
  obtain ⟨fs, hr, hrun, hended, hRW⟩ := X12.leaveW (s := s) (vm₁ := T3.vm) S3 (by rw [e12]; exact kk3) (v := some (.int (0 : Int32))) (fun h => by rw [Bd.returns] at h; cases h)
  refine ⟨_, _, pre0 _ ?_, hrun, hended, _, _, rfl, ?_, own_wmono hRW (by decide) (by decide)⟩
  -- 4. STEPS
  · show Steps p.tables e below (s₁.setTop (mkF m 0 #[.val (.ref a1), .val (.ref a2)] [])) _
    refine XS.aloadN X0.here hx rfl (hb hby d4_0) rfl rfl ?_
    show Steps p.tables e below (s₁.setTop (mkF m 1 #[.val (.ref a1), .val (.ref a2)] [(.ref a2)])) _
    refine st3 _ ?_
    show Steps p.tables e below (T3.setTop (mkF m 3 #[.val (.ref a1), .val (.ref a2)] [(.ref sa3), (.ref a2)])) _
    refine st4 _ ?_
    show Steps p.tables e below (T4.setTop (mkF m 6 #[.val (.ref a1), .val (.ref a2)] [(.ref a2)])) _
    refine XS.pop X4.here hx rfl (hb hby d4_6) rfl rfl ?_
    show Steps p.tables e below (T4.setTop (mkF m 7 #[.val (.ref a1), .val (.ref a2)] [])) _
    refine XS.aloadN X4.here hx rfl (hb hby d4_7) rfl rfl ?_
    show Steps p.tables e below (T4.setTop (mkF m 8 #[.val (.ref a1), .val (.ref a2)] [(.ref a1)])) _
    refine st6 _ ?_
    show Steps p.tables e below (T6.setTop (mkF m 11 #[.val (.ref a1), .val (.ref a2)] [(.long w5)])) _
    refine XS.aloadN X6.here hx rfl (hb hby d4_11) rfl rfl ?_
    show Steps p.tables e below (T6.setTop (mkF m 12 #[.val (.ref a1), .val (.ref a2)] [(.ref a2), (.long w5)])) _
    refine st8 _ ?_
    show Steps p.tables e below (T8.setTop (mkF m 15 #[.val (.ref a1), .val (.ref a2)] [(.long w7), (.long w5)])) _
    refine XS.lcmp X8.here hx rfl (hb hby d4_15) rfl ?_
    show Steps p.tables e below (T8.setTop (mkF m 16 #[.val (.ref a1), .val (.ref a2)] [(.int (lcmpW w5 w7))])) _
    refine XS.ifYes X8.here hx rfl (pc0 := 16) (pc' := 39) rfl (hb hby d4_16) rfl ((if0 _ _).trans (teq hc16).1) (by decide) (by decide) ?_
    show Steps p.tables e below (T8.setTop (mkF m 39 #[.val (.ref a1), .val (.ref a2)] [])) _
    refine XS.aloadN X8.here hx rfl (hb hby d4_39) rfl rfl ?_
    show Steps p.tables e below (T8.setTop (mkF m 40 #[.val (.ref a1), .val (.ref a2)] [(.ref a1)])) _
    refine st10 _ ?_
    show Steps p.tables e below (T10.setTop (mkF m 43 #[.val (.ref a1), .val (.ref a2)] [(.long w9)])) _
    refine XS.aloadN X10.here hx rfl (hb hby d4_43) rfl rfl ?_
    show Steps p.tables e below (T10.setTop (mkF m 44 #[.val (.ref a1), .val (.ref a2)] [(.ref a2), (.long w9)])) _
    refine st12 _ ?_
    show Steps p.tables e below (T12.setTop (mkF m 47 #[.val (.ref a1), .val (.ref a2)] [(.long w11), (.long w9)])) _
    refine XS.lcmp X12.here hx rfl (hb hby d4_47) rfl ?_
    show Steps p.tables e below (T12.setTop (mkF m 48 #[.val (.ref a1), .val (.ref a2)] [(.int (lcmpW w9 w11))])) _
    refine XS.ifYes X12.here hx rfl (pc0 := 48) (pc' := 55) rfl (hb hby d4_48) rfl ((if0 _ _).trans (flt hc48).2.2.2) (by decide) (by decide) ?_
    show Steps p.tables e below (T12.setTop (mkF m 55 #[.val (.ref a1), .val (.ref a2)] [])) _
    refine XS.iconst X12.here hx rfl (hb hby d4_55) ?_
    show Steps p.tables e below (T12.setTop (mkF m 56 #[.val (.ref a1), .val (.ref a2)] [(.int (0 : Int32))])) _
    exact retN X12 hx (t := .boolean) Bd.returns (by simp) (hb hby d4_56) hr
  · show QA (.int (0 : Int32)) h0 n0 _ T12.heap _
    rw [e12]
    exact ⟨rfl, N4, K3⟩
theorem d4_51 : decode prog_3_method_2_code 51 = .ok (.iconst 1, 1) := by decide +kernel
theorem d4_52 : decode prog_3_method_2_code 52 = .ok (.goto 4, 3) := by decide +kernel
set_option maxRecDepth 65536 in
set_option maxHeartbeats 40000000 in
theorem rm4_tf (l : Launch) (Z : State) (a0 : Array Value) (hw : ∀ d ∈ tables_1, d.before a0 Z = true) (ws : List Jvm.Cond) (a1 : Addr) (a2 : Addr) (w5 : Int64) (w7 : Int64) (w9 : Int64) (w11 : Int64) (h0 : Heap) (n0 : Nat) (Z0 : n0 ≤ h0.size) (F_dueMillis_a1 : Fld Z h0 a1 "com/example/chongshi/chongshi/DuePage$Cursor" "dueMillis" "J" (.long w5)) (F_dueMillis_a2 : Fld Z h0 a2 "com/example/chongshi/chongshi/DuePage$Cursor" "dueMillis" "J" (.long w7)) (F_id_a1 : Fld Z h0 a1 "com/example/chongshi/chongshi/DuePage$Cursor" "id" "J" (.long w9)) (F_id_a2 : Fld Z h0 a2 "com/example/chongshi/chongshi/DuePage$Cursor" "id" "J" (.long w11)) (hc16 : (lcmpW w5 w7) = (0 : Int32)) (hc48 : (0 : Int32) < (lcmpW w9 w11)) :
    MetFree l (⟨"com/example/chongshi/chongshi/DuePage$Cursor", "isAfter", "(Lcom/example/chongshi/chongshi/DuePage$Cursor;)Z"⟩ : MethodName) (head1 (Jvm.Cond.code (⟨"com/example/chongshi/chongshi/DuePage$Cursor", "isAfter", "(Lcom/example/chongshi/chongshi/DuePage$Cursor;)Z"⟩ : MethodName) prog_3_method_2_code 2 (some .boolean) :: ws) ({ frames := 1, cells := 2, slots := 24, locals := 13 } : Room)) (fun a U => a = #[(.ref a1), (.ref a2)] ∧ Z.Warmed39 U.vm ∧ U.heap = h0) (fun _ _ _ _ _ => True) (fun _ U o U' => ∃ v L, o = .returned v ∧ QA (.int (1 : Int32)) h0 n0 v U'.heap L ∧ ReturnedEndW U o U' L ({ frames := 1, cells := 2, slots := 24, locals := 13 } : Room).cells ({ frames := 1, cells := 2, slots := 24, locals := 13 } : Room).slots) := by
  refine MetFree.of_bodySF (plainFor_of_name pn_4) hisR ?_
  intro p e s m args below meth c s₁ Bd hml0 hP hK
  obtain ⟨rfl, hZ, hh⟩ := hP
  have hx := Bd.exec
  have hby := Bd.bytes
  have hml : c.maxLocals = 2 := hml0
  have hown : s.vm.findClass "com/example/chongshi/chongshi/DuePage$Cursor" = some m.cls := findClass_of_methodNamed Bd.named
  have hnm := (name_of_methodNamed Bd.named Bd.method).1
  have X0 : Stand p l e ({ frames := 1, cells := 2, slots := 24, locals := 13 } : Room) s m #[(.ref a1), (.ref a2)] below meth c s₁ [] 0 0 := Stand.of_body Bd
  have e0 : s₁.heap = h0 := by rw [← hh, Bd.state]; rfl
  have N0 := Fr.nil n0
  have pre0 : ∀ t, Steps p.tables e below (s₁.setTop (mkF m 0 #[.val (.ref a1), .val (.ref a2)] [])) t → Steps p.tables e below (s₁.setTop (entryFrame m #[(.ref a1), (.ref a2)] 2)) t := fun t k => castTop (ef_4 m a1 a2) k
  -- 3. LAWS
  have S0 : s.Since s.vm 0 := (State.WarmedH.refl s).since 0
  have wS : ∀ d ∈ Bundle.stringAtoms, d.before a0 Z = true := fun d hd => hw d ((by decide +kernel : ∀ d ∈ Bundle.stringAtoms, d ∈ tables_1) d hd)
  obtain ⟨sa3, T3, h3, k3, X3, e3, E3, S3, kk3, hZ, hown, st3⟩ := ldcS (s := s) (vm0 := s.vm) X0 hx hZ hown (hw _ (List.mem_of_getElem? (i := 23) rfl)) wS e0 S0 (Nat.zero_le _) (g := (mkF m 1 #[.val (.ref a1), .val (.ref a2)] [(.ref a2)])) rfl (hb hby d4_1) (n := 20) (by decide) (by decide) (by decide) (by decide)
  have K3 : Keep h0 h3 [] := (Keep.refl h0 []).ext E3
  -- pc 3: java/util/Objects.requireNonNull by its contract rm5
  obtain ⟨_, _, ⟨T4, L4, k4, n4⟩, -, X4, ⟨Lc4, hQ4, l4, y4, z4⟩, st4⟩ := Jvm.LawKit.callS X3 hx (y := (⟨"java/util/Objects", "requireNonNull", "(Ljava/lang/Object;Ljava/lang/String;)Ljava/lang/Object;"⟩ : MethodName)) hown (mvT hZ (hw _ (List.mem_of_getElem? (i := 31) rfl))) (mvT hZ (hw _ (List.mem_of_getElem? (i := 32) rfl))) (mvT hZ (hw _ (List.mem_of_getElem? (i := 33) rfl))) (mvT hZ (hw _ (List.mem_of_getElem? (i := 34) rfl))) (by decide) (backOf (W := 0) (rm5 l Z a0 hw [] a2 sa3 h3 n0 (Nat.le_trans Z0 E3.1)) hZ (hw _ (List.mem_of_getElem? (i := 34) rfl)) (hw _ (List.mem_of_getElem? (i := 33) rfl)) (by decide) (by decide)) (g := (mkF m 3 #[.val (.ref a1), .val (.ref a2)] [(.ref sa3), (.ref a2)])) rfl (by rw [hml]; rfl) (argsL := [(.ref a2), (.ref sa3)]) (rest := []) (lenOf pd_4_3 rfl) rfl (by show 2 * 0 + _ ≤ _; exact Nat.le_of_eq rfl) (hb hby d4_3) (fun _ _ => ⟨rfl, e3, (by decide : 2 + 0 ≤ _), (by decide : 24 + 0 ≤ _)⟩)
  dsimp only [Pt.U, Pt.locs, Pt.cells, Pt.slots] at X4 l4 y4 z4 st4 hQ4
  subst l4 y4 z4
  obtain ⟨rfl, N4q, eh4⟩ := hQ4
  have N4 := Fr.app N0 N4q
  obtain ⟨T6, X6, e6, st6⟩ := getF X4 hx hZ hown (host := "") (Or.inl (hw _ (List.mem_of_getElem? (i := 14) rfl))) Via.refl eh4 (F_dueMillis_a1.ext E3) (g := (mkF m 8 #[.val (.ref a1), .val (.ref a2)] [(.ref a1)])) rfl rfl (hb hby d4_8)
  obtain ⟨T8, X8, e8, st8⟩ := getF X6 hx hZ hown (host := "") (Or.inl (hw _ (List.mem_of_getElem? (i := 14) rfl))) Via.refl e6 (F_dueMillis_a2.ext E3) (g := (mkF m 12 #[.val (.ref a1), .val (.ref a2)] [(.ref a2), (.long w5)])) rfl rfl (hb hby d4_12)
  obtain ⟨T10, X10, e10, st10⟩ := getF X8 hx hZ hown (host := "") (Or.inl (hw _ (List.mem_of_getElem? (i := 16) rfl))) Via.refl e8 (F_id_a1.ext E3) (g := (mkF m 40 #[.val (.ref a1), .val (.ref a2)] [(.ref a1)])) rfl rfl (hb hby d4_40)
  obtain ⟨T12, X12, e12, st12⟩ := getF X10 hx hZ hown (host := "") (Or.inl (hw _ (List.mem_of_getElem? (i := 16) rfl))) Via.refl e10 (F_id_a2.ext E3) (g := (mkF m 44 #[.val (.ref a1), .val (.ref a2)] [(.ref a2), (.long w9)])) rfl rfl (hb hby d4_44)
  obtain ⟨fs, hr, hrun, hended, hRW⟩ := X12.leaveW (s := s) (vm₁ := T3.vm) S3 (by rw [e12]; exact kk3) (v := some (.int (1 : Int32))) (fun h => by rw [Bd.returns] at h; cases h)
  refine ⟨_, _, pre0 _ ?_, hrun, hended, _, _, rfl, ?_, own_wmono hRW (by decide) (by decide)⟩
  -- 4. STEPS
  · show Steps p.tables e below (s₁.setTop (mkF m 0 #[.val (.ref a1), .val (.ref a2)] [])) _
    refine XS.aloadN X0.here hx rfl (hb hby d4_0) rfl rfl ?_
    show Steps p.tables e below (s₁.setTop (mkF m 1 #[.val (.ref a1), .val (.ref a2)] [(.ref a2)])) _
    refine st3 _ ?_
    show Steps p.tables e below (T3.setTop (mkF m 3 #[.val (.ref a1), .val (.ref a2)] [(.ref sa3), (.ref a2)])) _
    refine st4 _ ?_
    show Steps p.tables e below (T4.setTop (mkF m 6 #[.val (.ref a1), .val (.ref a2)] [(.ref a2)])) _
    refine XS.pop X4.here hx rfl (hb hby d4_6) rfl rfl ?_
    show Steps p.tables e below (T4.setTop (mkF m 7 #[.val (.ref a1), .val (.ref a2)] [])) _
    refine XS.aloadN X4.here hx rfl (hb hby d4_7) rfl rfl ?_
    show Steps p.tables e below (T4.setTop (mkF m 8 #[.val (.ref a1), .val (.ref a2)] [(.ref a1)])) _
    refine st6 _ ?_
    show Steps p.tables e below (T6.setTop (mkF m 11 #[.val (.ref a1), .val (.ref a2)] [(.long w5)])) _
    refine XS.aloadN X6.here hx rfl (hb hby d4_11) rfl rfl ?_
    show Steps p.tables e below (T6.setTop (mkF m 12 #[.val (.ref a1), .val (.ref a2)] [(.ref a2), (.long w5)])) _
    refine st8 _ ?_
    show Steps p.tables e below (T8.setTop (mkF m 15 #[.val (.ref a1), .val (.ref a2)] [(.long w7), (.long w5)])) _
    refine XS.lcmp X8.here hx rfl (hb hby d4_15) rfl ?_
    show Steps p.tables e below (T8.setTop (mkF m 16 #[.val (.ref a1), .val (.ref a2)] [(.int (lcmpW w5 w7))])) _
    refine XS.ifYes X8.here hx rfl (pc0 := 16) (pc' := 39) rfl (hb hby d4_16) rfl ((if0 _ _).trans (teq hc16).1) (by decide) (by decide) ?_
    show Steps p.tables e below (T8.setTop (mkF m 39 #[.val (.ref a1), .val (.ref a2)] [])) _
    refine XS.aloadN X8.here hx rfl (hb hby d4_39) rfl rfl ?_
    show Steps p.tables e below (T8.setTop (mkF m 40 #[.val (.ref a1), .val (.ref a2)] [(.ref a1)])) _
    refine st10 _ ?_
    show Steps p.tables e below (T10.setTop (mkF m 43 #[.val (.ref a1), .val (.ref a2)] [(.long w9)])) _
    refine XS.aloadN X10.here hx rfl (hb hby d4_43) rfl rfl ?_
    show Steps p.tables e below (T10.setTop (mkF m 44 #[.val (.ref a1), .val (.ref a2)] [(.ref a2), (.long w9)])) _
    refine st12 _ ?_
    show Steps p.tables e below (T12.setTop (mkF m 47 #[.val (.ref a1), .val (.ref a2)] [(.long w11), (.long w9)])) _
    refine XS.lcmp X12.here hx rfl (hb hby d4_47) rfl ?_
    show Steps p.tables e below (T12.setTop (mkF m 48 #[.val (.ref a1), .val (.ref a2)] [(.int (lcmpW w9 w11))])) _
    refine XS.ifNo X12.here hx rfl (hb hby d4_48) rfl ((if0 _ _).trans (tlt hc48).2.2.2) ?_
    show Steps p.tables e below (T12.setTop (mkF m 51 #[.val (.ref a1), .val (.ref a2)] [])) _
    refine XS.iconst X12.here hx rfl (hb hby d4_51) ?_
    show Steps p.tables e below (T12.setTop (mkF m 52 #[.val (.ref a1), .val (.ref a2)] [(.int (1 : Int32))])) _
    refine XS.goto X12.here hx rfl (pc0 := 52) (pc' := 56) rfl (hb hby d4_52) (by decide) (by decide) ?_
    show Steps p.tables e below (T12.setTop (mkF m 56 #[.val (.ref a1), .val (.ref a2)] [(.int (1 : Int32))])) _
    exact retN X12 hx (t := .boolean) Bd.returns (by simp) (hb hby d4_56) hr
  · show QA (.int (1 : Int32)) h0 n0 _ T12.heap _
    rw [e12]
    exact ⟨rfl, N4, K3⟩
theorem d4_19 : decode prog_3_method_2_code 19 = .ok (.aload_n 0, 1) := by decide +kernel
theorem d4_20 : decode prog_3_method_2_code 20 = .ok (.getfield 7, 3) := by decide +kernel
theorem d4_23 : decode prog_3_method_2_code 23 = .ok (.aload_n 1, 1) := by decide +kernel
theorem d4_24 : decode prog_3_method_2_code 24 = .ok (.getfield 7, 3) := by decide +kernel
theorem d4_27 : decode prog_3_method_2_code 27 = .ok (.lcmp, 1) := by decide +kernel
theorem d4_28 : decode prog_3_method_2_code 28 = .ok (.ifCond .le 7, 3) := by decide +kernel
theorem d4_35 : decode prog_3_method_2_code 35 = .ok (.iconst 0, 1) := by decide +kernel
theorem d4_36 : decode prog_3_method_2_code 36 = .ok (.goto 20, 3) := by decide +kernel
set_option maxRecDepth 65536 in
set_option maxHeartbeats 40000000 in
theorem rm4_ft (l : Launch) (Z : State) (a0 : Array Value) (hw : ∀ d ∈ tables_1, d.before a0 Z = true) (ws : List Jvm.Cond) (a1 : Addr) (a2 : Addr) (w5 : Int64) (w7 : Int64) (h0 : Heap) (n0 : Nat) (Z0 : n0 ≤ h0.size) (F_dueMillis_a1 : Fld Z h0 a1 "com/example/chongshi/chongshi/DuePage$Cursor" "dueMillis" "J" (.long w5)) (F_dueMillis_a2 : Fld Z h0 a2 "com/example/chongshi/chongshi/DuePage$Cursor" "dueMillis" "J" (.long w7)) (hc16 : ¬ ((lcmpW w5 w7) = (0 : Int32))) (hc28 : ¬ ((0 : Int32) < (lcmpW w5 w7))) :
    MetFree l (⟨"com/example/chongshi/chongshi/DuePage$Cursor", "isAfter", "(Lcom/example/chongshi/chongshi/DuePage$Cursor;)Z"⟩ : MethodName) (head1 (Jvm.Cond.code (⟨"com/example/chongshi/chongshi/DuePage$Cursor", "isAfter", "(Lcom/example/chongshi/chongshi/DuePage$Cursor;)Z"⟩ : MethodName) prog_3_method_2_code 2 (some .boolean) :: ws) ({ frames := 1, cells := 2, slots := 24, locals := 13 } : Room)) (fun a U => a = #[(.ref a1), (.ref a2)] ∧ Z.Warmed39 U.vm ∧ U.heap = h0) (fun _ _ _ _ _ => True) (fun _ U o U' => ∃ v L, o = .returned v ∧ QA (.int (0 : Int32)) h0 n0 v U'.heap L ∧ ReturnedEndW U o U' L ({ frames := 1, cells := 2, slots := 24, locals := 13 } : Room).cells ({ frames := 1, cells := 2, slots := 24, locals := 13 } : Room).slots) := by
  refine MetFree.of_bodySF (plainFor_of_name pn_4) hisR ?_
  intro p e s m args below meth c s₁ Bd hml0 hP hK
  obtain ⟨rfl, hZ, hh⟩ := hP
  have hx := Bd.exec
  have hby := Bd.bytes
  have hml : c.maxLocals = 2 := hml0
  have hown : s.vm.findClass "com/example/chongshi/chongshi/DuePage$Cursor" = some m.cls := findClass_of_methodNamed Bd.named
  have hnm := (name_of_methodNamed Bd.named Bd.method).1
  have X0 : Stand p l e ({ frames := 1, cells := 2, slots := 24, locals := 13 } : Room) s m #[(.ref a1), (.ref a2)] below meth c s₁ [] 0 0 := Stand.of_body Bd
  have e0 : s₁.heap = h0 := by rw [← hh, Bd.state]; rfl
  have N0 := Fr.nil n0
  have pre0 : ∀ t, Steps p.tables e below (s₁.setTop (mkF m 0 #[.val (.ref a1), .val (.ref a2)] [])) t → Steps p.tables e below (s₁.setTop (entryFrame m #[(.ref a1), (.ref a2)] 2)) t := fun t k => castTop (ef_4 m a1 a2) k
  -- 3. LAWS
  have S0 : s.Since s.vm 0 := (State.WarmedH.refl s).since 0
  have wS : ∀ d ∈ Bundle.stringAtoms, d.before a0 Z = true := fun d hd => hw d ((by decide +kernel : ∀ d ∈ Bundle.stringAtoms, d ∈ tables_1) d hd)
  obtain ⟨sa3, T3, h3, k3, X3, e3, E3, S3, kk3, hZ, hown, st3⟩ := ldcS (s := s) (vm0 := s.vm) X0 hx hZ hown (hw _ (List.mem_of_getElem? (i := 23) rfl)) wS e0 S0 (Nat.zero_le _) (g := (mkF m 1 #[.val (.ref a1), .val (.ref a2)] [(.ref a2)])) rfl (hb hby d4_1) (n := 20) (by decide) (by decide) (by decide) (by decide)
  have K3 : Keep h0 h3 [] := (Keep.refl h0 []).ext E3
  -- pc 3: java/util/Objects.requireNonNull by its contract rm5
  obtain ⟨_, _, ⟨T4, L4, k4, n4⟩, -, X4, ⟨Lc4, hQ4, l4, y4, z4⟩, st4⟩ := Jvm.LawKit.callS X3 hx (y := (⟨"java/util/Objects", "requireNonNull", "(Ljava/lang/Object;Ljava/lang/String;)Ljava/lang/Object;"⟩ : MethodName)) hown (mvT hZ (hw _ (List.mem_of_getElem? (i := 31) rfl))) (mvT hZ (hw _ (List.mem_of_getElem? (i := 32) rfl))) (mvT hZ (hw _ (List.mem_of_getElem? (i := 33) rfl))) (mvT hZ (hw _ (List.mem_of_getElem? (i := 34) rfl))) (by decide) (backOf (W := 0) (rm5 l Z a0 hw [] a2 sa3 h3 n0 (Nat.le_trans Z0 E3.1)) hZ (hw _ (List.mem_of_getElem? (i := 34) rfl)) (hw _ (List.mem_of_getElem? (i := 33) rfl)) (by decide) (by decide)) (g := (mkF m 3 #[.val (.ref a1), .val (.ref a2)] [(.ref sa3), (.ref a2)])) rfl (by rw [hml]; rfl) (argsL := [(.ref a2), (.ref sa3)]) (rest := []) (lenOf pd_4_3 rfl) rfl (by show 2 * 0 + _ ≤ _; exact Nat.le_of_eq rfl) (hb hby d4_3) (fun _ _ => ⟨rfl, e3, (by decide : 2 + 0 ≤ _), (by decide : 24 + 0 ≤ _)⟩)
  dsimp only [Pt.U, Pt.locs, Pt.cells, Pt.slots] at X4 l4 y4 z4 st4 hQ4
  subst l4 y4 z4
  obtain ⟨rfl, N4q, eh4⟩ := hQ4
  have N4 := Fr.app N0 N4q
  obtain ⟨T6, X6, e6, st6⟩ := getF X4 hx hZ hown (host := "") (Or.inl (hw _ (List.mem_of_getElem? (i := 14) rfl))) Via.refl eh4 (F_dueMillis_a1.ext E3) (g := (mkF m 8 #[.val (.ref a1), .val (.ref a2)] [(.ref a1)])) rfl rfl (hb hby d4_8)
  obtain ⟨T8, X8, e8, st8⟩ := getF X6 hx hZ hown (host := "") (Or.inl (hw _ (List.mem_of_getElem? (i := 14) rfl))) Via.refl e6 (F_dueMillis_a2.ext E3) (g := (mkF m 12 #[.val (.ref a1), .val (.ref a2)] [(.ref a2), (.long w5)])) rfl rfl (hb hby d4_12)
  obtain ⟨T9, X9, e9, st9⟩ := getF X8 hx hZ hown (host := "") (Or.inl (hw _ (List.mem_of_getElem? (i := 14) rfl))) Via.refl e8 (F_dueMillis_a1.ext E3) (g := (mkF m 20 #[.val (.ref a1), .val (.ref a2)] [(.ref a1)])) rfl rfl (hb hby d4_20)
  obtain ⟨T10, X10, e10, st10⟩ := getF X9 hx hZ hown (host := "") (Or.inl (hw _ (List.mem_of_getElem? (i := 14) rfl))) Via.refl e9 (F_dueMillis_a2.ext E3) (g := (mkF m 24 #[.val (.ref a1), .val (.ref a2)] [(.ref a2), (.long w5)])) rfl rfl (hb hby d4_24)
  obtain ⟨fs, hr, hrun, hended, hRW⟩ := X10.leaveW (s := s) (vm₁ := T3.vm) S3 (by rw [e10]; exact kk3) (v := some (.int (0 : Int32))) (fun h => by rw [Bd.returns] at h; cases h)
  refine ⟨_, _, pre0 _ ?_, hrun, hended, _, _, rfl, ?_, own_wmono hRW (by decide) (by decide)⟩
  -- 4. STEPS
  · show Steps p.tables e below (s₁.setTop (mkF m 0 #[.val (.ref a1), .val (.ref a2)] [])) _
    refine XS.aloadN X0.here hx rfl (hb hby d4_0) rfl rfl ?_
    show Steps p.tables e below (s₁.setTop (mkF m 1 #[.val (.ref a1), .val (.ref a2)] [(.ref a2)])) _
    refine st3 _ ?_
    show Steps p.tables e below (T3.setTop (mkF m 3 #[.val (.ref a1), .val (.ref a2)] [(.ref sa3), (.ref a2)])) _
    refine st4 _ ?_
    show Steps p.tables e below (T4.setTop (mkF m 6 #[.val (.ref a1), .val (.ref a2)] [(.ref a2)])) _
    refine XS.pop X4.here hx rfl (hb hby d4_6) rfl rfl ?_
    show Steps p.tables e below (T4.setTop (mkF m 7 #[.val (.ref a1), .val (.ref a2)] [])) _
    refine XS.aloadN X4.here hx rfl (hb hby d4_7) rfl rfl ?_
    show Steps p.tables e below (T4.setTop (mkF m 8 #[.val (.ref a1), .val (.ref a2)] [(.ref a1)])) _
    refine st6 _ ?_
    show Steps p.tables e below (T6.setTop (mkF m 11 #[.val (.ref a1), .val (.ref a2)] [(.long w5)])) _
    refine XS.aloadN X6.here hx rfl (hb hby d4_11) rfl rfl ?_
    show Steps p.tables e below (T6.setTop (mkF m 12 #[.val (.ref a1), .val (.ref a2)] [(.ref a2), (.long w5)])) _
    refine st8 _ ?_
    show Steps p.tables e below (T8.setTop (mkF m 15 #[.val (.ref a1), .val (.ref a2)] [(.long w7), (.long w5)])) _
    refine XS.lcmp X8.here hx rfl (hb hby d4_15) rfl ?_
    show Steps p.tables e below (T8.setTop (mkF m 16 #[.val (.ref a1), .val (.ref a2)] [(.int (lcmpW w5 w7))])) _
    refine XS.ifNo X8.here hx rfl (hb hby d4_16) rfl ((if0 _ _).trans (feq hc16).1) ?_
    show Steps p.tables e below (T8.setTop (mkF m 19 #[.val (.ref a1), .val (.ref a2)] [])) _
    refine XS.aloadN X8.here hx rfl (hb hby d4_19) rfl rfl ?_
    show Steps p.tables e below (T8.setTop (mkF m 20 #[.val (.ref a1), .val (.ref a2)] [(.ref a1)])) _
    refine st9 _ ?_
    show Steps p.tables e below (T9.setTop (mkF m 23 #[.val (.ref a1), .val (.ref a2)] [(.long w5)])) _
    refine XS.aloadN X9.here hx rfl (hb hby d4_23) rfl rfl ?_
    show Steps p.tables e below (T9.setTop (mkF m 24 #[.val (.ref a1), .val (.ref a2)] [(.ref a2), (.long w5)])) _
    refine st10 _ ?_
    show Steps p.tables e below (T10.setTop (mkF m 27 #[.val (.ref a1), .val (.ref a2)] [(.long w7), (.long w5)])) _
    refine XS.lcmp X10.here hx rfl (hb hby d4_27) rfl ?_
    show Steps p.tables e below (T10.setTop (mkF m 28 #[.val (.ref a1), .val (.ref a2)] [(.int (lcmpW w5 w7))])) _
    refine XS.ifYes X10.here hx rfl (pc0 := 28) (pc' := 35) rfl (hb hby d4_28) rfl ((if0 _ _).trans (flt hc28).2.2.2) (by decide) (by decide) ?_
    show Steps p.tables e below (T10.setTop (mkF m 35 #[.val (.ref a1), .val (.ref a2)] [])) _
    refine XS.iconst X10.here hx rfl (hb hby d4_35) ?_
    show Steps p.tables e below (T10.setTop (mkF m 36 #[.val (.ref a1), .val (.ref a2)] [(.int (0 : Int32))])) _
    refine XS.goto X10.here hx rfl (pc0 := 36) (pc' := 56) rfl (hb hby d4_36) (by decide) (by decide) ?_
    show Steps p.tables e below (T10.setTop (mkF m 56 #[.val (.ref a1), .val (.ref a2)] [(.int (0 : Int32))])) _
    exact retN X10 hx (t := .boolean) Bd.returns (by simp) (hb hby d4_56) hr
  · show QA (.int (0 : Int32)) h0 n0 _ T10.heap _
    rw [e10]
    exact ⟨rfl, N4, K3⟩
theorem d4_31 : decode prog_3_method_2_code 31 = .ok (.iconst 1, 1) := by decide +kernel
theorem d4_32 : decode prog_3_method_2_code 32 = .ok (.goto 24, 3) := by decide +kernel
set_option maxRecDepth 65536 in
set_option maxHeartbeats 40000000 in
theorem rm4_ff (l : Launch) (Z : State) (a0 : Array Value) (hw : ∀ d ∈ tables_1, d.before a0 Z = true) (ws : List Jvm.Cond) (a1 : Addr) (a2 : Addr) (w5 : Int64) (w7 : Int64) (h0 : Heap) (n0 : Nat) (Z0 : n0 ≤ h0.size) (F_dueMillis_a1 : Fld Z h0 a1 "com/example/chongshi/chongshi/DuePage$Cursor" "dueMillis" "J" (.long w5)) (F_dueMillis_a2 : Fld Z h0 a2 "com/example/chongshi/chongshi/DuePage$Cursor" "dueMillis" "J" (.long w7)) (hc16 : ¬ ((lcmpW w5 w7) = (0 : Int32))) (hc28 : (0 : Int32) < (lcmpW w5 w7)) :
    MetFree l (⟨"com/example/chongshi/chongshi/DuePage$Cursor", "isAfter", "(Lcom/example/chongshi/chongshi/DuePage$Cursor;)Z"⟩ : MethodName) (head1 (Jvm.Cond.code (⟨"com/example/chongshi/chongshi/DuePage$Cursor", "isAfter", "(Lcom/example/chongshi/chongshi/DuePage$Cursor;)Z"⟩ : MethodName) prog_3_method_2_code 2 (some .boolean) :: ws) ({ frames := 1, cells := 2, slots := 24, locals := 13 } : Room)) (fun a U => a = #[(.ref a1), (.ref a2)] ∧ Z.Warmed39 U.vm ∧ U.heap = h0) (fun _ _ _ _ _ => True) (fun _ U o U' => ∃ v L, o = .returned v ∧ QA (.int (1 : Int32)) h0 n0 v U'.heap L ∧ ReturnedEndW U o U' L ({ frames := 1, cells := 2, slots := 24, locals := 13 } : Room).cells ({ frames := 1, cells := 2, slots := 24, locals := 13 } : Room).slots) := by
  refine MetFree.of_bodySF (plainFor_of_name pn_4) hisR ?_
  intro p e s m args below meth c s₁ Bd hml0 hP hK
  obtain ⟨rfl, hZ, hh⟩ := hP
  have hx := Bd.exec
  have hby := Bd.bytes
  have hml : c.maxLocals = 2 := hml0
  have hown : s.vm.findClass "com/example/chongshi/chongshi/DuePage$Cursor" = some m.cls := findClass_of_methodNamed Bd.named
  have hnm := (name_of_methodNamed Bd.named Bd.method).1
  have X0 : Stand p l e ({ frames := 1, cells := 2, slots := 24, locals := 13 } : Room) s m #[(.ref a1), (.ref a2)] below meth c s₁ [] 0 0 := Stand.of_body Bd
  have e0 : s₁.heap = h0 := by rw [← hh, Bd.state]; rfl
  have N0 := Fr.nil n0
  have pre0 : ∀ t, Steps p.tables e below (s₁.setTop (mkF m 0 #[.val (.ref a1), .val (.ref a2)] [])) t → Steps p.tables e below (s₁.setTop (entryFrame m #[(.ref a1), (.ref a2)] 2)) t := fun t k => castTop (ef_4 m a1 a2) k
  -- 3. LAWS
  have S0 : s.Since s.vm 0 := (State.WarmedH.refl s).since 0
  have wS : ∀ d ∈ Bundle.stringAtoms, d.before a0 Z = true := fun d hd => hw d ((by decide +kernel : ∀ d ∈ Bundle.stringAtoms, d ∈ tables_1) d hd)
  obtain ⟨sa3, T3, h3, k3, X3, e3, E3, S3, kk3, hZ, hown, st3⟩ := ldcS (s := s) (vm0 := s.vm) X0 hx hZ hown (hw _ (List.mem_of_getElem? (i := 23) rfl)) wS e0 S0 (Nat.zero_le _) (g := (mkF m 1 #[.val (.ref a1), .val (.ref a2)] [(.ref a2)])) rfl (hb hby d4_1) (n := 20) (by decide) (by decide) (by decide) (by decide)
  have K3 : Keep h0 h3 [] := (Keep.refl h0 []).ext E3
  -- pc 3: java/util/Objects.requireNonNull by its contract rm5
  obtain ⟨_, _, ⟨T4, L4, k4, n4⟩, -, X4, ⟨Lc4, hQ4, l4, y4, z4⟩, st4⟩ := Jvm.LawKit.callS X3 hx (y := (⟨"java/util/Objects", "requireNonNull", "(Ljava/lang/Object;Ljava/lang/String;)Ljava/lang/Object;"⟩ : MethodName)) hown (mvT hZ (hw _ (List.mem_of_getElem? (i := 31) rfl))) (mvT hZ (hw _ (List.mem_of_getElem? (i := 32) rfl))) (mvT hZ (hw _ (List.mem_of_getElem? (i := 33) rfl))) (mvT hZ (hw _ (List.mem_of_getElem? (i := 34) rfl))) (by decide) (backOf (W := 0) (rm5 l Z a0 hw [] a2 sa3 h3 n0 (Nat.le_trans Z0 E3.1)) hZ (hw _ (List.mem_of_getElem? (i := 34) rfl)) (hw _ (List.mem_of_getElem? (i := 33) rfl)) (by decide) (by decide)) (g := (mkF m 3 #[.val (.ref a1), .val (.ref a2)] [(.ref sa3), (.ref a2)])) rfl (by rw [hml]; rfl) (argsL := [(.ref a2), (.ref sa3)]) (rest := []) (lenOf pd_4_3 rfl) rfl (by show 2 * 0 + _ ≤ _; exact Nat.le_of_eq rfl) (hb hby d4_3) (fun _ _ => ⟨rfl, e3, (by decide : 2 + 0 ≤ _), (by decide : 24 + 0 ≤ _)⟩)
  dsimp only [Pt.U, Pt.locs, Pt.cells, Pt.slots] at X4 l4 y4 z4 st4 hQ4
  subst l4 y4 z4
  obtain ⟨rfl, N4q, eh4⟩ := hQ4
  have N4 := Fr.app N0 N4q
  obtain ⟨T6, X6, e6, st6⟩ := getF X4 hx hZ hown (host := "") (Or.inl (hw _ (List.mem_of_getElem? (i := 14) rfl))) Via.refl eh4 (F_dueMillis_a1.ext E3) (g := (mkF m 8 #[.val (.ref a1), .val (.ref a2)] [(.ref a1)])) rfl rfl (hb hby d4_8)
  obtain ⟨T8, X8, e8, st8⟩ := getF X6 hx hZ hown (host := "") (Or.inl (hw _ (List.mem_of_getElem? (i := 14) rfl))) Via.refl e6 (F_dueMillis_a2.ext E3) (g := (mkF m 12 #[.val (.ref a1), .val (.ref a2)] [(.ref a2), (.long w5)])) rfl rfl (hb hby d4_12)
  obtain ⟨T9, X9, e9, st9⟩ := getF X8 hx hZ hown (host := "") (Or.inl (hw _ (List.mem_of_getElem? (i := 14) rfl))) Via.refl e8 (F_dueMillis_a1.ext E3) (g := (mkF m 20 #[.val (.ref a1), .val (.ref a2)] [(.ref a1)])) rfl rfl (hb hby d4_20)
  obtain ⟨T10, X10, e10, st10⟩ := getF X9 hx hZ hown (host := "") (Or.inl (hw _ (List.mem_of_getElem? (i := 14) rfl))) Via.refl e9 (F_dueMillis_a2.ext E3) (g := (mkF m 24 #[.val (.ref a1), .val (.ref a2)] [(.ref a2), (.long w5)])) rfl rfl (hb hby d4_24)
  obtain ⟨fs, hr, hrun, hended, hRW⟩ := X10.leaveW (s := s) (vm₁ := T3.vm) S3 (by rw [e10]; exact kk3) (v := some (.int (1 : Int32))) (fun h => by rw [Bd.returns] at h; cases h)
  refine ⟨_, _, pre0 _ ?_, hrun, hended, _, _, rfl, ?_, own_wmono hRW (by decide) (by decide)⟩
  -- 4. STEPS
  · show Steps p.tables e below (s₁.setTop (mkF m 0 #[.val (.ref a1), .val (.ref a2)] [])) _
    refine XS.aloadN X0.here hx rfl (hb hby d4_0) rfl rfl ?_
    show Steps p.tables e below (s₁.setTop (mkF m 1 #[.val (.ref a1), .val (.ref a2)] [(.ref a2)])) _
    refine st3 _ ?_
    show Steps p.tables e below (T3.setTop (mkF m 3 #[.val (.ref a1), .val (.ref a2)] [(.ref sa3), (.ref a2)])) _
    refine st4 _ ?_
    show Steps p.tables e below (T4.setTop (mkF m 6 #[.val (.ref a1), .val (.ref a2)] [(.ref a2)])) _
    refine XS.pop X4.here hx rfl (hb hby d4_6) rfl rfl ?_
    show Steps p.tables e below (T4.setTop (mkF m 7 #[.val (.ref a1), .val (.ref a2)] [])) _
    refine XS.aloadN X4.here hx rfl (hb hby d4_7) rfl rfl ?_
    show Steps p.tables e below (T4.setTop (mkF m 8 #[.val (.ref a1), .val (.ref a2)] [(.ref a1)])) _
    refine st6 _ ?_
    show Steps p.tables e below (T6.setTop (mkF m 11 #[.val (.ref a1), .val (.ref a2)] [(.long w5)])) _
    refine XS.aloadN X6.here hx rfl (hb hby d4_11) rfl rfl ?_
    show Steps p.tables e below (T6.setTop (mkF m 12 #[.val (.ref a1), .val (.ref a2)] [(.ref a2), (.long w5)])) _
    refine st8 _ ?_
    show Steps p.tables e below (T8.setTop (mkF m 15 #[.val (.ref a1), .val (.ref a2)] [(.long w7), (.long w5)])) _
    refine XS.lcmp X8.here hx rfl (hb hby d4_15) rfl ?_
    show Steps p.tables e below (T8.setTop (mkF m 16 #[.val (.ref a1), .val (.ref a2)] [(.int (lcmpW w5 w7))])) _
    refine XS.ifNo X8.here hx rfl (hb hby d4_16) rfl ((if0 _ _).trans (feq hc16).1) ?_
    show Steps p.tables e below (T8.setTop (mkF m 19 #[.val (.ref a1), .val (.ref a2)] [])) _
    refine XS.aloadN X8.here hx rfl (hb hby d4_19) rfl rfl ?_
    show Steps p.tables e below (T8.setTop (mkF m 20 #[.val (.ref a1), .val (.ref a2)] [(.ref a1)])) _
    refine st9 _ ?_
    show Steps p.tables e below (T9.setTop (mkF m 23 #[.val (.ref a1), .val (.ref a2)] [(.long w5)])) _
    refine XS.aloadN X9.here hx rfl (hb hby d4_23) rfl rfl ?_
    show Steps p.tables e below (T9.setTop (mkF m 24 #[.val (.ref a1), .val (.ref a2)] [(.ref a2), (.long w5)])) _
    refine st10 _ ?_
    show Steps p.tables e below (T10.setTop (mkF m 27 #[.val (.ref a1), .val (.ref a2)] [(.long w7), (.long w5)])) _
    refine XS.lcmp X10.here hx rfl (hb hby d4_27) rfl ?_
    show Steps p.tables e below (T10.setTop (mkF m 28 #[.val (.ref a1), .val (.ref a2)] [(.int (lcmpW w5 w7))])) _
    refine XS.ifNo X10.here hx rfl (hb hby d4_28) rfl ((if0 _ _).trans (tlt hc28).2.2.2) ?_
    show Steps p.tables e below (T10.setTop (mkF m 31 #[.val (.ref a1), .val (.ref a2)] [])) _
    refine XS.iconst X10.here hx rfl (hb hby d4_31) ?_
    show Steps p.tables e below (T10.setTop (mkF m 32 #[.val (.ref a1), .val (.ref a2)] [(.int (1 : Int32))])) _
    refine XS.goto X10.here hx rfl (pc0 := 32) (pc' := 56) rfl (hb hby d4_32) (by decide) (by decide) ?_
    show Steps p.tables e below (T10.setTop (mkF m 56 #[.val (.ref a1), .val (.ref a2)] [(.int (1 : Int32))])) _
    exact retN X10 hx (t := .boolean) Bd.returns (by simp) (hb hby d4_56) hr
  · show QA (.int (1 : Int32)) h0 n0 _ T10.heap _
    rw [e10]
    exact ⟨rfl, N4, K3⟩
def fvA (a c b d : Int64) : Int32 := if (lcmpW a c) = (0 : Int32) then (if (0 : Int32) < (lcmpW b d) then (1 : Int32) else (0 : Int32)) else (if (0 : Int32) < (lcmpW a c) then (1 : Int32) else (0 : Int32))
set_option maxRecDepth 65536 in
set_option maxHeartbeats 40000000 in
theorem rm4 (l : Launch) (Z : State) (a0 : Array Value) (hw : ∀ d ∈ tables_1, d.before a0 Z = true) (ws : List Jvm.Cond) (a1 : Addr) (a2 : Addr) (w5 : Int64) (w7 : Int64) (w9 : Int64) (w11 : Int64) (h0 : Heap) (n0 : Nat) (Z0 : n0 ≤ h0.size) (F1 : Fld Z h0 a1 "com/example/chongshi/chongshi/DuePage$Cursor" "dueMillis" "J" (.long w5)) (F2 : Fld Z h0 a2 "com/example/chongshi/chongshi/DuePage$Cursor" "dueMillis" "J" (.long w7)) (F3 : Fld Z h0 a1 "com/example/chongshi/chongshi/DuePage$Cursor" "id" "J" (.long w9)) (F4 : Fld Z h0 a2 "com/example/chongshi/chongshi/DuePage$Cursor" "id" "J" (.long w11)) :
    MetFree l (⟨"com/example/chongshi/chongshi/DuePage$Cursor", "isAfter", "(Lcom/example/chongshi/chongshi/DuePage$Cursor;)Z"⟩ : MethodName) (head1 (Jvm.Cond.code (⟨"com/example/chongshi/chongshi/DuePage$Cursor", "isAfter", "(Lcom/example/chongshi/chongshi/DuePage$Cursor;)Z"⟩ : MethodName) prog_3_method_2_code 2 (some .boolean) :: ws) ({ frames := 1, cells := 2, slots := 24, locals := 13 } : Room)) (fun a U => a = #[(.ref a1), (.ref a2)] ∧ Z.Warmed39 U.vm ∧ U.heap = h0) (fun _ _ _ _ _ => True) (fun _ U o U' => ∃ v L, o = .returned v ∧ QA (.int (fvA w5 w7 w9 w11)) h0 n0 v U'.heap L ∧ ReturnedEndW U o U' L ({ frames := 1, cells := 2, slots := 24, locals := 13 } : Room).cells ({ frames := 1, cells := 2, slots := 24, locals := 13 } : Room).slots) := by
  unfold fvA
  by_cases c16 : (lcmpW w5 w7) = (0 : Int32)
  · rw [if_pos c16]
    by_cases c48 : (0 : Int32) < (lcmpW w9 w11)
    · rw [if_pos c48]; exact rm4_tf l Z a0 hw ws a1 a2 w5 w7 w9 w11 h0 n0 Z0 F1 F2 F3 F4 c16 c48
    · rw [if_neg c48]; exact rm4_tt l Z a0 hw ws a1 a2 w5 w7 w9 w11 h0 n0 Z0 F1 F2 F3 F4 c16 c48
  · rw [if_neg c16]
    by_cases c28 : (0 : Int32) < (lcmpW w5 w7)
    · rw [if_pos c28]; exact rm4_ff l Z a0 hw ws a1 a2 w5 w7 h0 n0 Z0 F1 F2 c16 c28
    · rw [if_neg c28]; exact rm4_ft l Z a0 hw ws a1 a2 w5 w7 h0 n0 Z0 F1 F2 c16 c28
set_option maxRecDepth 65536 in
set_option maxHeartbeats 40000000 in
theorem own_pre {p : Program} {l : Launch} {e : Env} {R : Room} {s : State} {m : MethodId} {args : Array Value} {below : List Frame} {meth : Method} {c : Code} {T : State} {locs : List Loc} {cells slots : Nat} {target : State} (X0 : Stand p l e R s m args below meth c T locs cells slots) (hx : p.tables.exec = Jvm.exec) (hby : c.code = code) (q1 q2 q3 q4 : Int64) (p5 : Int32) (k : Steps p.tables e below (T.setTop (mkF m 30 #[.val (.long q1), .second, .val (.long q2), .second, .val (.long q3), .second, .val (.long q4), .second, .val (.int p5), .val (.long (if (p5 &&& (1 : Int32)) = (0 : Int32) then q3 else q1)), .second, .val (.long (if (p5 &&& (2 : Int32)) = (0 : Int32) then q4 else q2)), .second, .unset, .unset, .unset, .unset, .unset, .unset, .unset, .unset, .unset] [])) target) : Steps p.tables e below (T.setTop (mkF m 0 #[.val (.long q1), .second, .val (.long q2), .second, .val (.long q3), .second, .val (.long q4), .second, .val (.int p5), .unset, .unset, .unset, .unset, .unset, .unset, .unset, .unset, .unset, .unset, .unset, .unset, .unset] [])) target := by
  by_cases c1 : (p5 &&& (1 : Int32)) = (0 : Int32) <;> by_cases c2 : (p5 &&& (2 : Int32)) = (0 : Int32)
  · rw [if_pos c1, if_pos c2] at k
    show Steps p.tables e below (T.setTop (mkF m 0 #[.val (.long q1), .second, .val (.long q2), .second, .val (.long q3), .second, .val (.long q4), .second, .val (.int p5), .unset, .unset, .unset, .unset, .unset, .unset, .unset, .unset, .unset, .unset, .unset, .unset, .unset] [])) _
    refine XS.iload X0.here hx rfl (hb hby at_0) rfl ?_
    show Steps p.tables e below (T.setTop (mkF m 2 #[.val (.long q1), .second, .val (.long q2), .second, .val (.long q3), .second, .val (.long q4), .second, .val (.int p5), .unset, .unset, .unset, .unset, .unset, .unset, .unset, .unset, .unset, .unset, .unset, .unset, .unset] [(.int p5)])) _
    refine XS.iconst X0.here hx rfl (hb hby at_2) ?_
    show Steps p.tables e below (T.setTop (mkF m 3 #[.val (.long q1), .second, .val (.long q2), .second, .val (.long q3), .second, .val (.long q4), .second, .val (.int p5), .unset, .unset, .unset, .unset, .unset, .unset, .unset, .unset, .unset, .unset, .unset, .unset, .unset] [(.int (1 : Int32)), (.int p5)])) _
    refine XS.iand X0.here hx rfl (hb hby at_3) rfl ?_
    show Steps p.tables e below (T.setTop (mkF m 4 #[.val (.long q1), .second, .val (.long q2), .second, .val (.long q3), .second, .val (.long q4), .second, .val (.int p5), .unset, .unset, .unset, .unset, .unset, .unset, .unset, .unset, .unset, .unset, .unset, .unset, .unset] [(.int (p5 &&& (1 : Int32)))])) _
    refine XS.ifYes X0.here hx rfl (pc0 := 4) (pc' := 11) rfl (hb hby at_4) rfl ((if0 _ _).trans (teq c1).1) (by decide) (by decide) ?_
    show Steps p.tables e below (T.setTop (mkF m 11 #[.val (.long q1), .second, .val (.long q2), .second, .val (.long q3), .second, .val (.long q4), .second, .val (.int p5), .unset, .unset, .unset, .unset, .unset, .unset, .unset, .unset, .unset, .unset, .unset, .unset, .unset] [])) _
    refine XS.lload X0.here hx rfl (hb hby at_11) rfl ?_
    show Steps p.tables e below (T.setTop (mkF m 13 #[.val (.long q1), .second, .val (.long q2), .second, .val (.long q3), .second, .val (.long q4), .second, .val (.int p5), .unset, .unset, .unset, .unset, .unset, .unset, .unset, .unset, .unset, .unset, .unset, .unset, .unset] [(.long q3)])) _
    refine XS.lstore X0.here hx rfl (hb hby at_13) rfl (l' := #[.val (.long q1), .second, .val (.long q2), .second, .val (.long q3), .second, .val (.long q4), .second, .val (.int p5), .val (.long q3), .second, .unset, .unset, .unset, .unset, .unset, .unset, .unset, .unset, .unset, .unset, .unset]) rfl ?_
    show Steps p.tables e below (T.setTop (mkF m 15 #[.val (.long q1), .second, .val (.long q2), .second, .val (.long q3), .second, .val (.long q4), .second, .val (.int p5), .val (.long q3), .second, .unset, .unset, .unset, .unset, .unset, .unset, .unset, .unset, .unset, .unset, .unset] [])) _
    refine XS.iload X0.here hx rfl (hb hby at_15) rfl ?_
    show Steps p.tables e below (T.setTop (mkF m 17 #[.val (.long q1), .second, .val (.long q2), .second, .val (.long q3), .second, .val (.long q4), .second, .val (.int p5), .val (.long q3), .second, .unset, .unset, .unset, .unset, .unset, .unset, .unset, .unset, .unset, .unset, .unset] [(.int p5)])) _
    refine XS.iconst X0.here hx rfl (hb hby at_17) ?_
    show Steps p.tables e below (T.setTop (mkF m 18 #[.val (.long q1), .second, .val (.long q2), .second, .val (.long q3), .second, .val (.long q4), .second, .val (.int p5), .val (.long q3), .second, .unset, .unset, .unset, .unset, .unset, .unset, .unset, .unset, .unset, .unset, .unset] [(.int (2 : Int32)), (.int p5)])) _
    refine XS.iand X0.here hx rfl (hb hby at_18) rfl ?_
    show Steps p.tables e below (T.setTop (mkF m 19 #[.val (.long q1), .second, .val (.long q2), .second, .val (.long q3), .second, .val (.long q4), .second, .val (.int p5), .val (.long q3), .second, .unset, .unset, .unset, .unset, .unset, .unset, .unset, .unset, .unset, .unset, .unset] [(.int (p5 &&& (2 : Int32)))])) _
    refine XS.ifYes X0.here hx rfl (pc0 := 19) (pc' := 26) rfl (hb hby at_19) rfl ((if0 _ _).trans (teq c2).1) (by decide) (by decide) ?_
    show Steps p.tables e below (T.setTop (mkF m 26 #[.val (.long q1), .second, .val (.long q2), .second, .val (.long q3), .second, .val (.long q4), .second, .val (.int p5), .val (.long q3), .second, .unset, .unset, .unset, .unset, .unset, .unset, .unset, .unset, .unset, .unset, .unset] [])) _
    refine XS.lload X0.here hx rfl (hb hby at_26) rfl ?_
    show Steps p.tables e below (T.setTop (mkF m 28 #[.val (.long q1), .second, .val (.long q2), .second, .val (.long q3), .second, .val (.long q4), .second, .val (.int p5), .val (.long q3), .second, .unset, .unset, .unset, .unset, .unset, .unset, .unset, .unset, .unset, .unset, .unset] [(.long q4)])) _
    refine XS.lstore X0.here hx rfl (hb hby at_28) rfl (l' := #[.val (.long q1), .second, .val (.long q2), .second, .val (.long q3), .second, .val (.long q4), .second, .val (.int p5), .val (.long q3), .second, .val (.long q4), .second, .unset, .unset, .unset, .unset, .unset, .unset, .unset, .unset, .unset]) rfl ?_
    exact k
  · rw [if_pos c1, if_neg c2] at k
    show Steps p.tables e below (T.setTop (mkF m 0 #[.val (.long q1), .second, .val (.long q2), .second, .val (.long q3), .second, .val (.long q4), .second, .val (.int p5), .unset, .unset, .unset, .unset, .unset, .unset, .unset, .unset, .unset, .unset, .unset, .unset, .unset] [])) _
    refine XS.iload X0.here hx rfl (hb hby at_0) rfl ?_
    show Steps p.tables e below (T.setTop (mkF m 2 #[.val (.long q1), .second, .val (.long q2), .second, .val (.long q3), .second, .val (.long q4), .second, .val (.int p5), .unset, .unset, .unset, .unset, .unset, .unset, .unset, .unset, .unset, .unset, .unset, .unset, .unset] [(.int p5)])) _
    refine XS.iconst X0.here hx rfl (hb hby at_2) ?_
    show Steps p.tables e below (T.setTop (mkF m 3 #[.val (.long q1), .second, .val (.long q2), .second, .val (.long q3), .second, .val (.long q4), .second, .val (.int p5), .unset, .unset, .unset, .unset, .unset, .unset, .unset, .unset, .unset, .unset, .unset, .unset, .unset] [(.int (1 : Int32)), (.int p5)])) _
    refine XS.iand X0.here hx rfl (hb hby at_3) rfl ?_
    show Steps p.tables e below (T.setTop (mkF m 4 #[.val (.long q1), .second, .val (.long q2), .second, .val (.long q3), .second, .val (.long q4), .second, .val (.int p5), .unset, .unset, .unset, .unset, .unset, .unset, .unset, .unset, .unset, .unset, .unset, .unset, .unset] [(.int (p5 &&& (1 : Int32)))])) _
    refine XS.ifYes X0.here hx rfl (pc0 := 4) (pc' := 11) rfl (hb hby at_4) rfl ((if0 _ _).trans (teq c1).1) (by decide) (by decide) ?_
    show Steps p.tables e below (T.setTop (mkF m 11 #[.val (.long q1), .second, .val (.long q2), .second, .val (.long q3), .second, .val (.long q4), .second, .val (.int p5), .unset, .unset, .unset, .unset, .unset, .unset, .unset, .unset, .unset, .unset, .unset, .unset, .unset] [])) _
    refine XS.lload X0.here hx rfl (hb hby at_11) rfl ?_
    show Steps p.tables e below (T.setTop (mkF m 13 #[.val (.long q1), .second, .val (.long q2), .second, .val (.long q3), .second, .val (.long q4), .second, .val (.int p5), .unset, .unset, .unset, .unset, .unset, .unset, .unset, .unset, .unset, .unset, .unset, .unset, .unset] [(.long q3)])) _
    refine XS.lstore X0.here hx rfl (hb hby at_13) rfl (l' := #[.val (.long q1), .second, .val (.long q2), .second, .val (.long q3), .second, .val (.long q4), .second, .val (.int p5), .val (.long q3), .second, .unset, .unset, .unset, .unset, .unset, .unset, .unset, .unset, .unset, .unset, .unset]) rfl ?_
    show Steps p.tables e below (T.setTop (mkF m 15 #[.val (.long q1), .second, .val (.long q2), .second, .val (.long q3), .second, .val (.long q4), .second, .val (.int p5), .val (.long q3), .second, .unset, .unset, .unset, .unset, .unset, .unset, .unset, .unset, .unset, .unset, .unset] [])) _
    refine XS.iload X0.here hx rfl (hb hby at_15) rfl ?_
    show Steps p.tables e below (T.setTop (mkF m 17 #[.val (.long q1), .second, .val (.long q2), .second, .val (.long q3), .second, .val (.long q4), .second, .val (.int p5), .val (.long q3), .second, .unset, .unset, .unset, .unset, .unset, .unset, .unset, .unset, .unset, .unset, .unset] [(.int p5)])) _
    refine XS.iconst X0.here hx rfl (hb hby at_17) ?_
    show Steps p.tables e below (T.setTop (mkF m 18 #[.val (.long q1), .second, .val (.long q2), .second, .val (.long q3), .second, .val (.long q4), .second, .val (.int p5), .val (.long q3), .second, .unset, .unset, .unset, .unset, .unset, .unset, .unset, .unset, .unset, .unset, .unset] [(.int (2 : Int32)), (.int p5)])) _
    refine XS.iand X0.here hx rfl (hb hby at_18) rfl ?_
    show Steps p.tables e below (T.setTop (mkF m 19 #[.val (.long q1), .second, .val (.long q2), .second, .val (.long q3), .second, .val (.long q4), .second, .val (.int p5), .val (.long q3), .second, .unset, .unset, .unset, .unset, .unset, .unset, .unset, .unset, .unset, .unset, .unset] [(.int (p5 &&& (2 : Int32)))])) _
    refine XS.ifNo X0.here hx rfl (hb hby at_19) rfl ((if0 _ _).trans (feq c2).1) ?_
    show Steps p.tables e below (T.setTop (mkF m 22 #[.val (.long q1), .second, .val (.long q2), .second, .val (.long q3), .second, .val (.long q4), .second, .val (.int p5), .val (.long q3), .second, .unset, .unset, .unset, .unset, .unset, .unset, .unset, .unset, .unset, .unset, .unset] [])) _
    refine XS.lloadN X0.here hx rfl (hb hby at_22) rfl ?_
    show Steps p.tables e below (T.setTop (mkF m 23 #[.val (.long q1), .second, .val (.long q2), .second, .val (.long q3), .second, .val (.long q4), .second, .val (.int p5), .val (.long q3), .second, .unset, .unset, .unset, .unset, .unset, .unset, .unset, .unset, .unset, .unset, .unset] [(.long q2)])) _
    refine XS.goto X0.here hx rfl (pc0 := 23) (pc' := 28) rfl (hb hby at_23) (by decide) (by decide) ?_
    show Steps p.tables e below (T.setTop (mkF m 28 #[.val (.long q1), .second, .val (.long q2), .second, .val (.long q3), .second, .val (.long q4), .second, .val (.int p5), .val (.long q3), .second, .unset, .unset, .unset, .unset, .unset, .unset, .unset, .unset, .unset, .unset, .unset] [(.long q2)])) _
    refine XS.lstore X0.here hx rfl (hb hby at_28) rfl (l' := #[.val (.long q1), .second, .val (.long q2), .second, .val (.long q3), .second, .val (.long q4), .second, .val (.int p5), .val (.long q3), .second, .val (.long q2), .second, .unset, .unset, .unset, .unset, .unset, .unset, .unset, .unset, .unset]) rfl ?_
    exact k
  · rw [if_neg c1, if_pos c2] at k
    show Steps p.tables e below (T.setTop (mkF m 0 #[.val (.long q1), .second, .val (.long q2), .second, .val (.long q3), .second, .val (.long q4), .second, .val (.int p5), .unset, .unset, .unset, .unset, .unset, .unset, .unset, .unset, .unset, .unset, .unset, .unset, .unset] [])) _
    refine XS.iload X0.here hx rfl (hb hby at_0) rfl ?_
    show Steps p.tables e below (T.setTop (mkF m 2 #[.val (.long q1), .second, .val (.long q2), .second, .val (.long q3), .second, .val (.long q4), .second, .val (.int p5), .unset, .unset, .unset, .unset, .unset, .unset, .unset, .unset, .unset, .unset, .unset, .unset, .unset] [(.int p5)])) _
    refine XS.iconst X0.here hx rfl (hb hby at_2) ?_
    show Steps p.tables e below (T.setTop (mkF m 3 #[.val (.long q1), .second, .val (.long q2), .second, .val (.long q3), .second, .val (.long q4), .second, .val (.int p5), .unset, .unset, .unset, .unset, .unset, .unset, .unset, .unset, .unset, .unset, .unset, .unset, .unset] [(.int (1 : Int32)), (.int p5)])) _
    refine XS.iand X0.here hx rfl (hb hby at_3) rfl ?_
    show Steps p.tables e below (T.setTop (mkF m 4 #[.val (.long q1), .second, .val (.long q2), .second, .val (.long q3), .second, .val (.long q4), .second, .val (.int p5), .unset, .unset, .unset, .unset, .unset, .unset, .unset, .unset, .unset, .unset, .unset, .unset, .unset] [(.int (p5 &&& (1 : Int32)))])) _
    refine XS.ifNo X0.here hx rfl (hb hby at_4) rfl ((if0 _ _).trans (feq c1).1) ?_
    show Steps p.tables e below (T.setTop (mkF m 7 #[.val (.long q1), .second, .val (.long q2), .second, .val (.long q3), .second, .val (.long q4), .second, .val (.int p5), .unset, .unset, .unset, .unset, .unset, .unset, .unset, .unset, .unset, .unset, .unset, .unset, .unset] [])) _
    refine XS.lloadN X0.here hx rfl (hb hby at_7) rfl ?_
    show Steps p.tables e below (T.setTop (mkF m 8 #[.val (.long q1), .second, .val (.long q2), .second, .val (.long q3), .second, .val (.long q4), .second, .val (.int p5), .unset, .unset, .unset, .unset, .unset, .unset, .unset, .unset, .unset, .unset, .unset, .unset, .unset] [(.long q1)])) _
    refine XS.goto X0.here hx rfl (pc0 := 8) (pc' := 13) rfl (hb hby at_8) (by decide) (by decide) ?_
    show Steps p.tables e below (T.setTop (mkF m 13 #[.val (.long q1), .second, .val (.long q2), .second, .val (.long q3), .second, .val (.long q4), .second, .val (.int p5), .unset, .unset, .unset, .unset, .unset, .unset, .unset, .unset, .unset, .unset, .unset, .unset, .unset] [(.long q1)])) _
    refine XS.lstore X0.here hx rfl (hb hby at_13) rfl (l' := #[.val (.long q1), .second, .val (.long q2), .second, .val (.long q3), .second, .val (.long q4), .second, .val (.int p5), .val (.long q1), .second, .unset, .unset, .unset, .unset, .unset, .unset, .unset, .unset, .unset, .unset, .unset]) rfl ?_
    show Steps p.tables e below (T.setTop (mkF m 15 #[.val (.long q1), .second, .val (.long q2), .second, .val (.long q3), .second, .val (.long q4), .second, .val (.int p5), .val (.long q1), .second, .unset, .unset, .unset, .unset, .unset, .unset, .unset, .unset, .unset, .unset, .unset] [])) _
    refine XS.iload X0.here hx rfl (hb hby at_15) rfl ?_
    show Steps p.tables e below (T.setTop (mkF m 17 #[.val (.long q1), .second, .val (.long q2), .second, .val (.long q3), .second, .val (.long q4), .second, .val (.int p5), .val (.long q1), .second, .unset, .unset, .unset, .unset, .unset, .unset, .unset, .unset, .unset, .unset, .unset] [(.int p5)])) _
    refine XS.iconst X0.here hx rfl (hb hby at_17) ?_
    show Steps p.tables e below (T.setTop (mkF m 18 #[.val (.long q1), .second, .val (.long q2), .second, .val (.long q3), .second, .val (.long q4), .second, .val (.int p5), .val (.long q1), .second, .unset, .unset, .unset, .unset, .unset, .unset, .unset, .unset, .unset, .unset, .unset] [(.int (2 : Int32)), (.int p5)])) _
    refine XS.iand X0.here hx rfl (hb hby at_18) rfl ?_
    show Steps p.tables e below (T.setTop (mkF m 19 #[.val (.long q1), .second, .val (.long q2), .second, .val (.long q3), .second, .val (.long q4), .second, .val (.int p5), .val (.long q1), .second, .unset, .unset, .unset, .unset, .unset, .unset, .unset, .unset, .unset, .unset, .unset] [(.int (p5 &&& (2 : Int32)))])) _
    refine XS.ifYes X0.here hx rfl (pc0 := 19) (pc' := 26) rfl (hb hby at_19) rfl ((if0 _ _).trans (teq c2).1) (by decide) (by decide) ?_
    show Steps p.tables e below (T.setTop (mkF m 26 #[.val (.long q1), .second, .val (.long q2), .second, .val (.long q3), .second, .val (.long q4), .second, .val (.int p5), .val (.long q1), .second, .unset, .unset, .unset, .unset, .unset, .unset, .unset, .unset, .unset, .unset, .unset] [])) _
    refine XS.lload X0.here hx rfl (hb hby at_26) rfl ?_
    show Steps p.tables e below (T.setTop (mkF m 28 #[.val (.long q1), .second, .val (.long q2), .second, .val (.long q3), .second, .val (.long q4), .second, .val (.int p5), .val (.long q1), .second, .unset, .unset, .unset, .unset, .unset, .unset, .unset, .unset, .unset, .unset, .unset] [(.long q4)])) _
    refine XS.lstore X0.here hx rfl (hb hby at_28) rfl (l' := #[.val (.long q1), .second, .val (.long q2), .second, .val (.long q3), .second, .val (.long q4), .second, .val (.int p5), .val (.long q1), .second, .val (.long q4), .second, .unset, .unset, .unset, .unset, .unset, .unset, .unset, .unset, .unset]) rfl ?_
    exact k
  · rw [if_neg c1, if_neg c2] at k
    show Steps p.tables e below (T.setTop (mkF m 0 #[.val (.long q1), .second, .val (.long q2), .second, .val (.long q3), .second, .val (.long q4), .second, .val (.int p5), .unset, .unset, .unset, .unset, .unset, .unset, .unset, .unset, .unset, .unset, .unset, .unset, .unset] [])) _
    refine XS.iload X0.here hx rfl (hb hby at_0) rfl ?_
    show Steps p.tables e below (T.setTop (mkF m 2 #[.val (.long q1), .second, .val (.long q2), .second, .val (.long q3), .second, .val (.long q4), .second, .val (.int p5), .unset, .unset, .unset, .unset, .unset, .unset, .unset, .unset, .unset, .unset, .unset, .unset, .unset] [(.int p5)])) _
    refine XS.iconst X0.here hx rfl (hb hby at_2) ?_
    show Steps p.tables e below (T.setTop (mkF m 3 #[.val (.long q1), .second, .val (.long q2), .second, .val (.long q3), .second, .val (.long q4), .second, .val (.int p5), .unset, .unset, .unset, .unset, .unset, .unset, .unset, .unset, .unset, .unset, .unset, .unset, .unset] [(.int (1 : Int32)), (.int p5)])) _
    refine XS.iand X0.here hx rfl (hb hby at_3) rfl ?_
    show Steps p.tables e below (T.setTop (mkF m 4 #[.val (.long q1), .second, .val (.long q2), .second, .val (.long q3), .second, .val (.long q4), .second, .val (.int p5), .unset, .unset, .unset, .unset, .unset, .unset, .unset, .unset, .unset, .unset, .unset, .unset, .unset] [(.int (p5 &&& (1 : Int32)))])) _
    refine XS.ifNo X0.here hx rfl (hb hby at_4) rfl ((if0 _ _).trans (feq c1).1) ?_
    show Steps p.tables e below (T.setTop (mkF m 7 #[.val (.long q1), .second, .val (.long q2), .second, .val (.long q3), .second, .val (.long q4), .second, .val (.int p5), .unset, .unset, .unset, .unset, .unset, .unset, .unset, .unset, .unset, .unset, .unset, .unset, .unset] [])) _
    refine XS.lloadN X0.here hx rfl (hb hby at_7) rfl ?_
    show Steps p.tables e below (T.setTop (mkF m 8 #[.val (.long q1), .second, .val (.long q2), .second, .val (.long q3), .second, .val (.long q4), .second, .val (.int p5), .unset, .unset, .unset, .unset, .unset, .unset, .unset, .unset, .unset, .unset, .unset, .unset, .unset] [(.long q1)])) _
    refine XS.goto X0.here hx rfl (pc0 := 8) (pc' := 13) rfl (hb hby at_8) (by decide) (by decide) ?_
    show Steps p.tables e below (T.setTop (mkF m 13 #[.val (.long q1), .second, .val (.long q2), .second, .val (.long q3), .second, .val (.long q4), .second, .val (.int p5), .unset, .unset, .unset, .unset, .unset, .unset, .unset, .unset, .unset, .unset, .unset, .unset, .unset] [(.long q1)])) _
    refine XS.lstore X0.here hx rfl (hb hby at_13) rfl (l' := #[.val (.long q1), .second, .val (.long q2), .second, .val (.long q3), .second, .val (.long q4), .second, .val (.int p5), .val (.long q1), .second, .unset, .unset, .unset, .unset, .unset, .unset, .unset, .unset, .unset, .unset, .unset]) rfl ?_
    show Steps p.tables e below (T.setTop (mkF m 15 #[.val (.long q1), .second, .val (.long q2), .second, .val (.long q3), .second, .val (.long q4), .second, .val (.int p5), .val (.long q1), .second, .unset, .unset, .unset, .unset, .unset, .unset, .unset, .unset, .unset, .unset, .unset] [])) _
    refine XS.iload X0.here hx rfl (hb hby at_15) rfl ?_
    show Steps p.tables e below (T.setTop (mkF m 17 #[.val (.long q1), .second, .val (.long q2), .second, .val (.long q3), .second, .val (.long q4), .second, .val (.int p5), .val (.long q1), .second, .unset, .unset, .unset, .unset, .unset, .unset, .unset, .unset, .unset, .unset, .unset] [(.int p5)])) _
    refine XS.iconst X0.here hx rfl (hb hby at_17) ?_
    show Steps p.tables e below (T.setTop (mkF m 18 #[.val (.long q1), .second, .val (.long q2), .second, .val (.long q3), .second, .val (.long q4), .second, .val (.int p5), .val (.long q1), .second, .unset, .unset, .unset, .unset, .unset, .unset, .unset, .unset, .unset, .unset, .unset] [(.int (2 : Int32)), (.int p5)])) _
    refine XS.iand X0.here hx rfl (hb hby at_18) rfl ?_
    show Steps p.tables e below (T.setTop (mkF m 19 #[.val (.long q1), .second, .val (.long q2), .second, .val (.long q3), .second, .val (.long q4), .second, .val (.int p5), .val (.long q1), .second, .unset, .unset, .unset, .unset, .unset, .unset, .unset, .unset, .unset, .unset, .unset] [(.int (p5 &&& (2 : Int32)))])) _
    refine XS.ifNo X0.here hx rfl (hb hby at_19) rfl ((if0 _ _).trans (feq c2).1) ?_
    show Steps p.tables e below (T.setTop (mkF m 22 #[.val (.long q1), .second, .val (.long q2), .second, .val (.long q3), .second, .val (.long q4), .second, .val (.int p5), .val (.long q1), .second, .unset, .unset, .unset, .unset, .unset, .unset, .unset, .unset, .unset, .unset, .unset] [])) _
    refine XS.lloadN X0.here hx rfl (hb hby at_22) rfl ?_
    show Steps p.tables e below (T.setTop (mkF m 23 #[.val (.long q1), .second, .val (.long q2), .second, .val (.long q3), .second, .val (.long q4), .second, .val (.int p5), .val (.long q1), .second, .unset, .unset, .unset, .unset, .unset, .unset, .unset, .unset, .unset, .unset, .unset] [(.long q2)])) _
    refine XS.goto X0.here hx rfl (pc0 := 23) (pc' := 28) rfl (hb hby at_23) (by decide) (by decide) ?_
    show Steps p.tables e below (T.setTop (mkF m 28 #[.val (.long q1), .second, .val (.long q2), .second, .val (.long q3), .second, .val (.long q4), .second, .val (.int p5), .val (.long q1), .second, .unset, .unset, .unset, .unset, .unset, .unset, .unset, .unset, .unset, .unset, .unset] [(.long q2)])) _
    refine XS.lstore X0.here hx rfl (hb hby at_28) rfl (l' := #[.val (.long q1), .second, .val (.long q2), .second, .val (.long q3), .second, .val (.long q4), .second, .val (.int p5), .val (.long q1), .second, .val (.long q2), .second, .unset, .unset, .unset, .unset, .unset, .unset, .unset, .unset, .unset]) rfl ?_
    exact k
set_option maxRecDepth 65536 in
set_option maxHeartbeats 40000000 in
theorem own_postA {p : Program} {l : Launch} {e : Env} {R : Room} {s : State} {m : MethodId} {args : Array Value} {below : List Frame} {meth : Method} {c : Code} {T : State} {locs : List Loc} {cells slots : Nat} {target : State} (X0 : Stand p l e R s m args below meth c T locs cells slots) (hx : p.tables.exec = Jvm.exec) (hby : c.code = code) (q1 q2 q3 q4 cq dq : Int64) (p5 xy yx xx : Int32) (b6 : Addr) (b8 : Addr) (hc85 : (0 : Int32) < (lcmpW q1 cq)) (hc113 : ¬ ((0 : Int32) < (lcmpW cq q1))) (hc120 : ¬ ((lcmpW cq q1) = (0 : Int32))) (hc141 : ¬ ((lcmpW q1 cq) = (0 : Int32))) (hc185 : ¬ (xy = yx)) (hc199 : xy = (1 : Int32)) (hc206 : yx = (0 : Int32)) (hc211 : xx = (0 : Int32)) (hc216 : ¬ ((1 : Int32) = (0 : Int32))) (k : ∀ Ls, Steps p.tables e below (T.setTop (mkF m 224 Ls [(.int (1 : Int32))])) target) : Steps p.tables e below (T.setTop (mkF m 81 #[.val (.long q1), .second, .val (.long q2), .second, .val (.long q3), .second, .val (.long q4), .second, .val (.int p5), .val (.long cq), .second, .val (.long dq), .second, .val (.ref b6), .val (.ref b8), .val (.int xy), .val (.int yx), .val (.int xx), .unset, .unset, .unset, .unset] [])) target := by
  show Steps p.tables e below (T.setTop (mkF m 81 #[.val (.long q1), .second, .val (.long q2), .second, .val (.long q3), .second, .val (.long q4), .second, .val (.int p5), .val (.long cq), .second, .val (.long dq), .second, .val (.ref b6), .val (.ref b8), .val (.int xy), .val (.int yx), .val (.int xx), .unset, .unset, .unset, .unset] [])) _
  refine XS.lloadN X0.here hx rfl (hb hby at_81) rfl ?_
  show Steps p.tables e below (T.setTop (mkF m 82 #[.val (.long q1), .second, .val (.long q2), .second, .val (.long q3), .second, .val (.long q4), .second, .val (.int p5), .val (.long cq), .second, .val (.long dq), .second, .val (.ref b6), .val (.ref b8), .val (.int xy), .val (.int yx), .val (.int xx), .unset, .unset, .unset, .unset] [(.long q1)])) _
  refine XS.lload X0.here hx rfl (hb hby at_82) rfl ?_
  show Steps p.tables e below (T.setTop (mkF m 84 #[.val (.long q1), .second, .val (.long q2), .second, .val (.long q3), .second, .val (.long q4), .second, .val (.int p5), .val (.long cq), .second, .val (.long dq), .second, .val (.ref b6), .val (.ref b8), .val (.int xy), .val (.int yx), .val (.int xx), .unset, .unset, .unset, .unset] [(.long cq), (.long q1)])) _
  refine XS.lcmp X0.here hx rfl (hb hby at_84) rfl ?_
  show Steps p.tables e below (T.setTop (mkF m 85 #[.val (.long q1), .second, .val (.long q2), .second, .val (.long q3), .second, .val (.long q4), .second, .val (.int p5), .val (.long cq), .second, .val (.long dq), .second, .val (.ref b6), .val (.ref b8), .val (.int xy), .val (.int yx), .val (.int xx), .unset, .unset, .unset, .unset] [(.int (lcmpW q1 cq))])) _
  refine XS.ifYes X0.here hx rfl (pc0 := 85) (pc' := 102) rfl (hb hby at_85) rfl ((if0 _ _).trans (tlt hc85).2.2.1) (by decide) (by decide) ?_
  show Steps p.tables e below (T.setTop (mkF m 102 #[.val (.long q1), .second, .val (.long q2), .second, .val (.long q3), .second, .val (.long q4), .second, .val (.int p5), .val (.long cq), .second, .val (.long dq), .second, .val (.ref b6), .val (.ref b8), .val (.int xy), .val (.int yx), .val (.int xx), .unset, .unset, .unset, .unset] [])) _
  refine XS.iconst X0.here hx rfl (hb hby at_102) ?_
  show Steps p.tables e below (T.setTop (mkF m 103 #[.val (.long q1), .second, .val (.long q2), .second, .val (.long q3), .second, .val (.long q4), .second, .val (.int p5), .val (.long cq), .second, .val (.long dq), .second, .val (.ref b6), .val (.ref b8), .val (.int xy), .val (.int yx), .val (.int xx), .unset, .unset, .unset, .unset] [(.int (1 : Int32))])) _
  refine XS.goto X0.here hx rfl (pc0 := 103) (pc' := 107) rfl (hb hby at_103) (by decide) (by decide) ?_
  show Steps p.tables e below (T.setTop (mkF m 107 #[.val (.long q1), .second, .val (.long q2), .second, .val (.long q3), .second, .val (.long q4), .second, .val (.int p5), .val (.long cq), .second, .val (.long dq), .second, .val (.ref b6), .val (.ref b8), .val (.int xy), .val (.int yx), .val (.int xx), .unset, .unset, .unset, .unset] [(.int (1 : Int32))])) _
  refine XS.istore X0.here hx rfl (hb hby at_107) rfl (l' := #[.val (.long q1), .second, .val (.long q2), .second, .val (.long q3), .second, .val (.long q4), .second, .val (.int p5), .val (.long cq), .second, .val (.long dq), .second, .val (.ref b6), .val (.ref b8), .val (.int xy), .val (.int yx), .val (.int xx), .val (.int (1 : Int32)), .unset, .unset, .unset]) rfl ?_
  show Steps p.tables e below (T.setTop (mkF m 109 #[.val (.long q1), .second, .val (.long q2), .second, .val (.long q3), .second, .val (.long q4), .second, .val (.int p5), .val (.long cq), .second, .val (.long dq), .second, .val (.ref b6), .val (.ref b8), .val (.int xy), .val (.int yx), .val (.int xx), .val (.int (1 : Int32)), .unset, .unset, .unset] [])) _
  refine XS.lload X0.here hx rfl (hb hby at_109) rfl ?_
  show Steps p.tables e below (T.setTop (mkF m 111 #[.val (.long q1), .second, .val (.long q2), .second, .val (.long q3), .second, .val (.long q4), .second, .val (.int p5), .val (.long cq), .second, .val (.long dq), .second, .val (.ref b6), .val (.ref b8), .val (.int xy), .val (.int yx), .val (.int xx), .val (.int (1 : Int32)), .unset, .unset, .unset] [(.long cq)])) _
  refine XS.lloadN X0.here hx rfl (hb hby at_111) rfl ?_
  show Steps p.tables e below (T.setTop (mkF m 112 #[.val (.long q1), .second, .val (.long q2), .second, .val (.long q3), .second, .val (.long q4), .second, .val (.int p5), .val (.long cq), .second, .val (.long dq), .second, .val (.ref b6), .val (.ref b8), .val (.int xy), .val (.int yx), .val (.int xx), .val (.int (1 : Int32)), .unset, .unset, .unset] [(.long q1), (.long cq)])) _
  refine XS.lcmp X0.here hx rfl (hb hby at_112) rfl ?_
  show Steps p.tables e below (T.setTop (mkF m 113 #[.val (.long q1), .second, .val (.long q2), .second, .val (.long q3), .second, .val (.long q4), .second, .val (.int p5), .val (.long cq), .second, .val (.long dq), .second, .val (.ref b6), .val (.ref b8), .val (.int xy), .val (.int yx), .val (.int xx), .val (.int (1 : Int32)), .unset, .unset, .unset] [(.int (lcmpW cq q1))])) _
  refine XS.ifNo X0.here hx rfl (hb hby at_113) rfl ((if0 _ _).trans (flt hc113).2.2.1) ?_
  show Steps p.tables e below (T.setTop (mkF m 116 #[.val (.long q1), .second, .val (.long q2), .second, .val (.long q3), .second, .val (.long q4), .second, .val (.int p5), .val (.long cq), .second, .val (.long dq), .second, .val (.ref b6), .val (.ref b8), .val (.int xy), .val (.int yx), .val (.int xx), .val (.int (1 : Int32)), .unset, .unset, .unset] [])) _
  refine XS.lload X0.here hx rfl (hb hby at_116) rfl ?_
  show Steps p.tables e below (T.setTop (mkF m 118 #[.val (.long q1), .second, .val (.long q2), .second, .val (.long q3), .second, .val (.long q4), .second, .val (.int p5), .val (.long cq), .second, .val (.long dq), .second, .val (.ref b6), .val (.ref b8), .val (.int xy), .val (.int yx), .val (.int xx), .val (.int (1 : Int32)), .unset, .unset, .unset] [(.long cq)])) _
  refine XS.lloadN X0.here hx rfl (hb hby at_118) rfl ?_
  show Steps p.tables e below (T.setTop (mkF m 119 #[.val (.long q1), .second, .val (.long q2), .second, .val (.long q3), .second, .val (.long q4), .second, .val (.int p5), .val (.long cq), .second, .val (.long dq), .second, .val (.ref b6), .val (.ref b8), .val (.int xy), .val (.int yx), .val (.int xx), .val (.int (1 : Int32)), .unset, .unset, .unset] [(.long q1), (.long cq)])) _
  refine XS.lcmp X0.here hx rfl (hb hby at_119) rfl ?_
  show Steps p.tables e below (T.setTop (mkF m 120 #[.val (.long q1), .second, .val (.long q2), .second, .val (.long q3), .second, .val (.long q4), .second, .val (.int p5), .val (.long cq), .second, .val (.long dq), .second, .val (.ref b6), .val (.ref b8), .val (.int xy), .val (.int yx), .val (.int xx), .val (.int (1 : Int32)), .unset, .unset, .unset] [(.int (lcmpW cq q1))])) _
  refine XS.ifYes X0.here hx rfl (pc0 := 120) (pc' := 134) rfl (hb hby at_120) rfl ((if0 _ _).trans (feq hc120).2) (by decide) (by decide) ?_
  show Steps p.tables e below (T.setTop (mkF m 134 #[.val (.long q1), .second, .val (.long q2), .second, .val (.long q3), .second, .val (.long q4), .second, .val (.int p5), .val (.long cq), .second, .val (.long dq), .second, .val (.ref b6), .val (.ref b8), .val (.int xy), .val (.int yx), .val (.int xx), .val (.int (1 : Int32)), .unset, .unset, .unset] [])) _
  refine XS.iconst X0.here hx rfl (hb hby at_134) ?_
  show Steps p.tables e below (T.setTop (mkF m 135 #[.val (.long q1), .second, .val (.long q2), .second, .val (.long q3), .second, .val (.long q4), .second, .val (.int p5), .val (.long cq), .second, .val (.long dq), .second, .val (.ref b6), .val (.ref b8), .val (.int xy), .val (.int yx), .val (.int xx), .val (.int (1 : Int32)), .unset, .unset, .unset] [(.int (0 : Int32))])) _
  refine XS.istore X0.here hx rfl (hb hby at_135) rfl (l' := #[.val (.long q1), .second, .val (.long q2), .second, .val (.long q3), .second, .val (.long q4), .second, .val (.int p5), .val (.long cq), .second, .val (.long dq), .second, .val (.ref b6), .val (.ref b8), .val (.int xy), .val (.int yx), .val (.int xx), .val (.int (1 : Int32)), .val (.int (0 : Int32)), .unset, .unset]) rfl ?_
  show Steps p.tables e below (T.setTop (mkF m 137 #[.val (.long q1), .second, .val (.long q2), .second, .val (.long q3), .second, .val (.long q4), .second, .val (.int p5), .val (.long cq), .second, .val (.long dq), .second, .val (.ref b6), .val (.ref b8), .val (.int xy), .val (.int yx), .val (.int xx), .val (.int (1 : Int32)), .val (.int (0 : Int32)), .unset, .unset] [])) _
  refine XS.lloadN X0.here hx rfl (hb hby at_137) rfl ?_
  show Steps p.tables e below (T.setTop (mkF m 138 #[.val (.long q1), .second, .val (.long q2), .second, .val (.long q3), .second, .val (.long q4), .second, .val (.int p5), .val (.long cq), .second, .val (.long dq), .second, .val (.ref b6), .val (.ref b8), .val (.int xy), .val (.int yx), .val (.int xx), .val (.int (1 : Int32)), .val (.int (0 : Int32)), .unset, .unset] [(.long q1)])) _
  refine XS.lload X0.here hx rfl (hb hby at_138) rfl ?_
  show Steps p.tables e below (T.setTop (mkF m 140 #[.val (.long q1), .second, .val (.long q2), .second, .val (.long q3), .second, .val (.long q4), .second, .val (.int p5), .val (.long cq), .second, .val (.long dq), .second, .val (.ref b6), .val (.ref b8), .val (.int xy), .val (.int yx), .val (.int xx), .val (.int (1 : Int32)), .val (.int (0 : Int32)), .unset, .unset] [(.long cq), (.long q1)])) _
  refine XS.lcmp X0.here hx rfl (hb hby at_140) rfl ?_
  show Steps p.tables e below (T.setTop (mkF m 141 #[.val (.long q1), .second, .val (.long q2), .second, .val (.long q3), .second, .val (.long q4), .second, .val (.int p5), .val (.long cq), .second, .val (.long dq), .second, .val (.ref b6), .val (.ref b8), .val (.int xy), .val (.int yx), .val (.int xx), .val (.int (1 : Int32)), .val (.int (0 : Int32)), .unset, .unset] [(.int (lcmpW q1 cq))])) _
  refine XS.ifYes X0.here hx rfl (pc0 := 141) (pc' := 155) rfl (hb hby at_141) rfl ((if0 _ _).trans (feq hc141).2) (by decide) (by decide) ?_
  show Steps p.tables e below (T.setTop (mkF m 155 #[.val (.long q1), .second, .val (.long q2), .second, .val (.long q3), .second, .val (.long q4), .second, .val (.int p5), .val (.long cq), .second, .val (.long dq), .second, .val (.ref b6), .val (.ref b8), .val (.int xy), .val (.int yx), .val (.int xx), .val (.int (1 : Int32)), .val (.int (0 : Int32)), .unset, .unset] [])) _
  refine XS.iconst X0.here hx rfl (hb hby at_155) ?_
  show Steps p.tables e below (T.setTop (mkF m 156 #[.val (.long q1), .second, .val (.long q2), .second, .val (.long q3), .second, .val (.long q4), .second, .val (.int p5), .val (.long cq), .second, .val (.long dq), .second, .val (.ref b6), .val (.ref b8), .val (.int xy), .val (.int yx), .val (.int xx), .val (.int (1 : Int32)), .val (.int (0 : Int32)), .unset, .unset] [(.int (0 : Int32))])) _
  refine XS.istore X0.here hx rfl (hb hby at_156) rfl (l' := #[.val (.long q1), .second, .val (.long q2), .second, .val (.long q3), .second, .val (.long q4), .second, .val (.int p5), .val (.long cq), .second, .val (.long dq), .second, .val (.ref b6), .val (.ref b8), .val (.int xy), .val (.int yx), .val (.int xx), .val (.int (1 : Int32)), .val (.int (0 : Int32)), .val (.int (0 : Int32)), .unset]) rfl ?_
  show Steps p.tables e below (T.setTop (mkF m 158 #[.val (.long q1), .second, .val (.long q2), .second, .val (.long q3), .second, .val (.long q4), .second, .val (.int p5), .val (.long cq), .second, .val (.long dq), .second, .val (.ref b6), .val (.ref b8), .val (.int xy), .val (.int yx), .val (.int xx), .val (.int (1 : Int32)), .val (.int (0 : Int32)), .val (.int (0 : Int32)), .unset] [])) _
  refine XS.iload X0.here hx rfl (hb hby at_158) rfl ?_
  show Steps p.tables e below (T.setTop (mkF m 160 #[.val (.long q1), .second, .val (.long q2), .second, .val (.long q3), .second, .val (.long q4), .second, .val (.int p5), .val (.long cq), .second, .val (.long dq), .second, .val (.ref b6), .val (.ref b8), .val (.int xy), .val (.int yx), .val (.int xx), .val (.int (1 : Int32)), .val (.int (0 : Int32)), .val (.int (0 : Int32)), .unset] [(.int (0 : Int32))])) _
  refine XS.ifYes X0.here hx rfl (pc0 := 160) (pc' := 181) rfl (hb hby at_160) rfl ((if0 _ _).trans (teq (rfl : (0 : Int32) = (0 : Int32))).1) (by decide) (by decide) ?_
  show Steps p.tables e below (T.setTop (mkF m 181 #[.val (.long q1), .second, .val (.long q2), .second, .val (.long q3), .second, .val (.long q4), .second, .val (.int p5), .val (.long cq), .second, .val (.long dq), .second, .val (.ref b6), .val (.ref b8), .val (.int xy), .val (.int yx), .val (.int xx), .val (.int (1 : Int32)), .val (.int (0 : Int32)), .val (.int (0 : Int32)), .unset] [])) _
  refine XS.iload X0.here hx rfl (hb hby at_181) rfl ?_
  show Steps p.tables e below (T.setTop (mkF m 183 #[.val (.long q1), .second, .val (.long q2), .second, .val (.long q3), .second, .val (.long q4), .second, .val (.int p5), .val (.long cq), .second, .val (.long dq), .second, .val (.ref b6), .val (.ref b8), .val (.int xy), .val (.int yx), .val (.int xx), .val (.int (1 : Int32)), .val (.int (0 : Int32)), .val (.int (0 : Int32)), .unset] [(.int xy)])) _
  refine XS.iload X0.here hx rfl (hb hby at_183) rfl ?_
  show Steps p.tables e below (T.setTop (mkF m 185 #[.val (.long q1), .second, .val (.long q2), .second, .val (.long q3), .second, .val (.long q4), .second, .val (.int p5), .val (.long cq), .second, .val (.long dq), .second, .val (.ref b6), .val (.ref b8), .val (.int xy), .val (.int yx), .val (.int xx), .val (.int (1 : Int32)), .val (.int (0 : Int32)), .val (.int (0 : Int32)), .unset] [(.int yx), (.int xy)])) _
  refine XS.icmpNo X0.here hx rfl (hb hby at_185) rfl (feq hc185).1 ?_
  show Steps p.tables e below (T.setTop (mkF m 188 #[.val (.long q1), .second, .val (.long q2), .second, .val (.long q3), .second, .val (.long q4), .second, .val (.int p5), .val (.long cq), .second, .val (.long dq), .second, .val (.ref b6), .val (.ref b8), .val (.int xy), .val (.int yx), .val (.int xx), .val (.int (1 : Int32)), .val (.int (0 : Int32)), .val (.int (0 : Int32)), .unset] [])) _
  refine XS.iconst X0.here hx rfl (hb hby at_188) ?_
  show Steps p.tables e below (T.setTop (mkF m 189 #[.val (.long q1), .second, .val (.long q2), .second, .val (.long q3), .second, .val (.long q4), .second, .val (.int p5), .val (.long cq), .second, .val (.long dq), .second, .val (.ref b6), .val (.ref b8), .val (.int xy), .val (.int yx), .val (.int xx), .val (.int (1 : Int32)), .val (.int (0 : Int32)), .val (.int (0 : Int32)), .unset] [(.int (1 : Int32))])) _
  refine XS.goto X0.here hx rfl (pc0 := 189) (pc' := 193) rfl (hb hby at_189) (by decide) (by decide) ?_
  show Steps p.tables e below (T.setTop (mkF m 193 #[.val (.long q1), .second, .val (.long q2), .second, .val (.long q3), .second, .val (.long q4), .second, .val (.int p5), .val (.long cq), .second, .val (.long dq), .second, .val (.ref b6), .val (.ref b8), .val (.int xy), .val (.int yx), .val (.int xx), .val (.int (1 : Int32)), .val (.int (0 : Int32)), .val (.int (0 : Int32)), .unset] [(.int (1 : Int32))])) _
  refine XS.istore X0.here hx rfl (hb hby at_193) rfl (l' := #[.val (.long q1), .second, .val (.long q2), .second, .val (.long q3), .second, .val (.long q4), .second, .val (.int p5), .val (.long cq), .second, .val (.long dq), .second, .val (.ref b6), .val (.ref b8), .val (.int xy), .val (.int yx), .val (.int xx), .val (.int (1 : Int32)), .val (.int (0 : Int32)), .val (.int (0 : Int32)), .val (.int (1 : Int32))]) rfl ?_
  show Steps p.tables e below (T.setTop (mkF m 195 #[.val (.long q1), .second, .val (.long q2), .second, .val (.long q3), .second, .val (.long q4), .second, .val (.int p5), .val (.long cq), .second, .val (.long dq), .second, .val (.ref b6), .val (.ref b8), .val (.int xy), .val (.int yx), .val (.int xx), .val (.int (1 : Int32)), .val (.int (0 : Int32)), .val (.int (0 : Int32)), .val (.int (1 : Int32))] [])) _
  refine XS.iload X0.here hx rfl (hb hby at_195) rfl ?_
  show Steps p.tables e below (T.setTop (mkF m 197 #[.val (.long q1), .second, .val (.long q2), .second, .val (.long q3), .second, .val (.long q4), .second, .val (.int p5), .val (.long cq), .second, .val (.long dq), .second, .val (.ref b6), .val (.ref b8), .val (.int xy), .val (.int yx), .val (.int xx), .val (.int (1 : Int32)), .val (.int (0 : Int32)), .val (.int (0 : Int32)), .val (.int (1 : Int32))] [(.int xy)])) _
  refine XS.iload X0.here hx rfl (hb hby at_197) rfl ?_
  show Steps p.tables e below (T.setTop (mkF m 199 #[.val (.long q1), .second, .val (.long q2), .second, .val (.long q3), .second, .val (.long q4), .second, .val (.int p5), .val (.long cq), .second, .val (.long dq), .second, .val (.ref b6), .val (.ref b8), .val (.int xy), .val (.int yx), .val (.int xx), .val (.int (1 : Int32)), .val (.int (0 : Int32)), .val (.int (0 : Int32)), .val (.int (1 : Int32))] [(.int (1 : Int32)), (.int xy)])) _
  refine XS.icmpNo X0.here hx rfl (hb hby at_199) rfl (teq hc199).2 ?_
  show Steps p.tables e below (T.setTop (mkF m 202 #[.val (.long q1), .second, .val (.long q2), .second, .val (.long q3), .second, .val (.long q4), .second, .val (.int p5), .val (.long cq), .second, .val (.long dq), .second, .val (.ref b6), .val (.ref b8), .val (.int xy), .val (.int yx), .val (.int xx), .val (.int (1 : Int32)), .val (.int (0 : Int32)), .val (.int (0 : Int32)), .val (.int (1 : Int32))] [])) _
  refine XS.iload X0.here hx rfl (hb hby at_202) rfl ?_
  show Steps p.tables e below (T.setTop (mkF m 204 #[.val (.long q1), .second, .val (.long q2), .second, .val (.long q3), .second, .val (.long q4), .second, .val (.int p5), .val (.long cq), .second, .val (.long dq), .second, .val (.ref b6), .val (.ref b8), .val (.int xy), .val (.int yx), .val (.int xx), .val (.int (1 : Int32)), .val (.int (0 : Int32)), .val (.int (0 : Int32)), .val (.int (1 : Int32))] [(.int yx)])) _
  refine XS.iload X0.here hx rfl (hb hby at_204) rfl ?_
  show Steps p.tables e below (T.setTop (mkF m 206 #[.val (.long q1), .second, .val (.long q2), .second, .val (.long q3), .second, .val (.long q4), .second, .val (.int p5), .val (.long cq), .second, .val (.long dq), .second, .val (.ref b6), .val (.ref b8), .val (.int xy), .val (.int yx), .val (.int xx), .val (.int (1 : Int32)), .val (.int (0 : Int32)), .val (.int (0 : Int32)), .val (.int (1 : Int32))] [(.int (0 : Int32)), (.int yx)])) _
  refine XS.icmpNo X0.here hx rfl (hb hby at_206) rfl (teq hc206).2 ?_
  show Steps p.tables e below (T.setTop (mkF m 209 #[.val (.long q1), .second, .val (.long q2), .second, .val (.long q3), .second, .val (.long q4), .second, .val (.int p5), .val (.long cq), .second, .val (.long dq), .second, .val (.ref b6), .val (.ref b8), .val (.int xy), .val (.int yx), .val (.int xx), .val (.int (1 : Int32)), .val (.int (0 : Int32)), .val (.int (0 : Int32)), .val (.int (1 : Int32))] [])) _
  refine XS.iload X0.here hx rfl (hb hby at_209) rfl ?_
  show Steps p.tables e below (T.setTop (mkF m 211 #[.val (.long q1), .second, .val (.long q2), .second, .val (.long q3), .second, .val (.long q4), .second, .val (.int p5), .val (.long cq), .second, .val (.long dq), .second, .val (.ref b6), .val (.ref b8), .val (.int xy), .val (.int yx), .val (.int xx), .val (.int (1 : Int32)), .val (.int (0 : Int32)), .val (.int (0 : Int32)), .val (.int (1 : Int32))] [(.int xx)])) _
  refine XS.ifNo X0.here hx rfl (hb hby at_211) rfl ((if0 _ _).trans (teq hc211).2) ?_
  show Steps p.tables e below (T.setTop (mkF m 214 #[.val (.long q1), .second, .val (.long q2), .second, .val (.long q3), .second, .val (.long q4), .second, .val (.int p5), .val (.long cq), .second, .val (.long dq), .second, .val (.ref b6), .val (.ref b8), .val (.int xy), .val (.int yx), .val (.int xx), .val (.int (1 : Int32)), .val (.int (0 : Int32)), .val (.int (0 : Int32)), .val (.int (1 : Int32))] [])) _
  refine XS.iload X0.here hx rfl (hb hby at_214) rfl ?_
  show Steps p.tables e below (T.setTop (mkF m 216 #[.val (.long q1), .second, .val (.long q2), .second, .val (.long q3), .second, .val (.long q4), .second, .val (.int p5), .val (.long cq), .second, .val (.long dq), .second, .val (.ref b6), .val (.ref b8), .val (.int xy), .val (.int yx), .val (.int xx), .val (.int (1 : Int32)), .val (.int (0 : Int32)), .val (.int (0 : Int32)), .val (.int (1 : Int32))] [(.int (1 : Int32))])) _
  refine XS.ifNo X0.here hx rfl (hb hby at_216) rfl ((if0 _ _).trans (feq hc216).1) ?_
  show Steps p.tables e below (T.setTop (mkF m 219 #[.val (.long q1), .second, .val (.long q2), .second, .val (.long q3), .second, .val (.long q4), .second, .val (.int p5), .val (.long cq), .second, .val (.long dq), .second, .val (.ref b6), .val (.ref b8), .val (.int xy), .val (.int yx), .val (.int xx), .val (.int (1 : Int32)), .val (.int (0 : Int32)), .val (.int (0 : Int32)), .val (.int (1 : Int32))] [])) _
  refine XS.iconst X0.here hx rfl (hb hby at_219) ?_
  show Steps p.tables e below (T.setTop (mkF m 220 #[.val (.long q1), .second, .val (.long q2), .second, .val (.long q3), .second, .val (.long q4), .second, .val (.int p5), .val (.long cq), .second, .val (.long dq), .second, .val (.ref b6), .val (.ref b8), .val (.int xy), .val (.int yx), .val (.int xx), .val (.int (1 : Int32)), .val (.int (0 : Int32)), .val (.int (0 : Int32)), .val (.int (1 : Int32))] [(.int (1 : Int32))])) _
  refine XS.goto X0.here hx rfl (pc0 := 220) (pc' := 224) rfl (hb hby at_220) (by decide) (by decide) ?_
  exact k _
set_option maxRecDepth 65536 in
set_option maxHeartbeats 40000000 in
theorem own_postB {p : Program} {l : Launch} {e : Env} {R : Room} {s : State} {m : MethodId} {args : Array Value} {below : List Frame} {meth : Method} {c : Code} {T : State} {locs : List Loc} {cells slots : Nat} {target : State} (X0 : Stand p l e R s m args below meth c T locs cells slots) (hx : p.tables.exec = Jvm.exec) (hby : c.code = code) (q1 q2 q3 q4 cq dq : Int64) (p5 xy yx xx : Int32) (b6 : Addr) (b8 : Addr) (hc85 : ¬ ((0 : Int32) < (lcmpW q1 cq))) (hc92 : ¬ ((lcmpW q1 cq) = (0 : Int32))) (hc113 : (0 : Int32) < (lcmpW cq q1)) (hc141 : ¬ ((lcmpW q1 cq) = (0 : Int32))) (hc185 : ¬ (xy = yx)) (hc199 : xy = (0 : Int32)) (hc206 : yx = (1 : Int32)) (hc211 : xx = (0 : Int32)) (hc216 : ¬ ((1 : Int32) = (0 : Int32))) (k : ∀ Ls, Steps p.tables e below (T.setTop (mkF m 224 Ls [(.int (1 : Int32))])) target) : Steps p.tables e below (T.setTop (mkF m 81 #[.val (.long q1), .second, .val (.long q2), .second, .val (.long q3), .second, .val (.long q4), .second, .val (.int p5), .val (.long cq), .second, .val (.long dq), .second, .val (.ref b6), .val (.ref b8), .val (.int xy), .val (.int yx), .val (.int xx), .unset, .unset, .unset, .unset] [])) target := by
  show Steps p.tables e below (T.setTop (mkF m 81 #[.val (.long q1), .second, .val (.long q2), .second, .val (.long q3), .second, .val (.long q4), .second, .val (.int p5), .val (.long cq), .second, .val (.long dq), .second, .val (.ref b6), .val (.ref b8), .val (.int xy), .val (.int yx), .val (.int xx), .unset, .unset, .unset, .unset] [])) _
  refine XS.lloadN X0.here hx rfl (hb hby at_81) rfl ?_
  show Steps p.tables e below (T.setTop (mkF m 82 #[.val (.long q1), .second, .val (.long q2), .second, .val (.long q3), .second, .val (.long q4), .second, .val (.int p5), .val (.long cq), .second, .val (.long dq), .second, .val (.ref b6), .val (.ref b8), .val (.int xy), .val (.int yx), .val (.int xx), .unset, .unset, .unset, .unset] [(.long q1)])) _
  refine XS.lload X0.here hx rfl (hb hby at_82) rfl ?_
  show Steps p.tables e below (T.setTop (mkF m 84 #[.val (.long q1), .second, .val (.long q2), .second, .val (.long q3), .second, .val (.long q4), .second, .val (.int p5), .val (.long cq), .second, .val (.long dq), .second, .val (.ref b6), .val (.ref b8), .val (.int xy), .val (.int yx), .val (.int xx), .unset, .unset, .unset, .unset] [(.long cq), (.long q1)])) _
  refine XS.lcmp X0.here hx rfl (hb hby at_84) rfl ?_
  show Steps p.tables e below (T.setTop (mkF m 85 #[.val (.long q1), .second, .val (.long q2), .second, .val (.long q3), .second, .val (.long q4), .second, .val (.int p5), .val (.long cq), .second, .val (.long dq), .second, .val (.ref b6), .val (.ref b8), .val (.int xy), .val (.int yx), .val (.int xx), .unset, .unset, .unset, .unset] [(.int (lcmpW q1 cq))])) _
  refine XS.ifNo X0.here hx rfl (hb hby at_85) rfl ((if0 _ _).trans (flt hc85).2.2.1) ?_
  show Steps p.tables e below (T.setTop (mkF m 88 #[.val (.long q1), .second, .val (.long q2), .second, .val (.long q3), .second, .val (.long q4), .second, .val (.int p5), .val (.long cq), .second, .val (.long dq), .second, .val (.ref b6), .val (.ref b8), .val (.int xy), .val (.int yx), .val (.int xx), .unset, .unset, .unset, .unset] [])) _
  refine XS.lloadN X0.here hx rfl (hb hby at_88) rfl ?_
  show Steps p.tables e below (T.setTop (mkF m 89 #[.val (.long q1), .second, .val (.long q2), .second, .val (.long q3), .second, .val (.long q4), .second, .val (.int p5), .val (.long cq), .second, .val (.long dq), .second, .val (.ref b6), .val (.ref b8), .val (.int xy), .val (.int yx), .val (.int xx), .unset, .unset, .unset, .unset] [(.long q1)])) _
  refine XS.lload X0.here hx rfl (hb hby at_89) rfl ?_
  show Steps p.tables e below (T.setTop (mkF m 91 #[.val (.long q1), .second, .val (.long q2), .second, .val (.long q3), .second, .val (.long q4), .second, .val (.int p5), .val (.long cq), .second, .val (.long dq), .second, .val (.ref b6), .val (.ref b8), .val (.int xy), .val (.int yx), .val (.int xx), .unset, .unset, .unset, .unset] [(.long cq), (.long q1)])) _
  refine XS.lcmp X0.here hx rfl (hb hby at_91) rfl ?_
  show Steps p.tables e below (T.setTop (mkF m 92 #[.val (.long q1), .second, .val (.long q2), .second, .val (.long q3), .second, .val (.long q4), .second, .val (.int p5), .val (.long cq), .second, .val (.long dq), .second, .val (.ref b6), .val (.ref b8), .val (.int xy), .val (.int yx), .val (.int xx), .unset, .unset, .unset, .unset] [(.int (lcmpW q1 cq))])) _
  refine XS.ifYes X0.here hx rfl (pc0 := 92) (pc' := 106) rfl (hb hby at_92) rfl ((if0 _ _).trans (feq hc92).2) (by decide) (by decide) ?_
  show Steps p.tables e below (T.setTop (mkF m 106 #[.val (.long q1), .second, .val (.long q2), .second, .val (.long q3), .second, .val (.long q4), .second, .val (.int p5), .val (.long cq), .second, .val (.long dq), .second, .val (.ref b6), .val (.ref b8), .val (.int xy), .val (.int yx), .val (.int xx), .unset, .unset, .unset, .unset] [])) _
  refine XS.iconst X0.here hx rfl (hb hby at_106) ?_
  show Steps p.tables e below (T.setTop (mkF m 107 #[.val (.long q1), .second, .val (.long q2), .second, .val (.long q3), .second, .val (.long q4), .second, .val (.int p5), .val (.long cq), .second, .val (.long dq), .second, .val (.ref b6), .val (.ref b8), .val (.int xy), .val (.int yx), .val (.int xx), .unset, .unset, .unset, .unset] [(.int (0 : Int32))])) _
  refine XS.istore X0.here hx rfl (hb hby at_107) rfl (l' := #[.val (.long q1), .second, .val (.long q2), .second, .val (.long q3), .second, .val (.long q4), .second, .val (.int p5), .val (.long cq), .second, .val (.long dq), .second, .val (.ref b6), .val (.ref b8), .val (.int xy), .val (.int yx), .val (.int xx), .val (.int (0 : Int32)), .unset, .unset, .unset]) rfl ?_
  show Steps p.tables e below (T.setTop (mkF m 109 #[.val (.long q1), .second, .val (.long q2), .second, .val (.long q3), .second, .val (.long q4), .second, .val (.int p5), .val (.long cq), .second, .val (.long dq), .second, .val (.ref b6), .val (.ref b8), .val (.int xy), .val (.int yx), .val (.int xx), .val (.int (0 : Int32)), .unset, .unset, .unset] [])) _
  refine XS.lload X0.here hx rfl (hb hby at_109) rfl ?_
  show Steps p.tables e below (T.setTop (mkF m 111 #[.val (.long q1), .second, .val (.long q2), .second, .val (.long q3), .second, .val (.long q4), .second, .val (.int p5), .val (.long cq), .second, .val (.long dq), .second, .val (.ref b6), .val (.ref b8), .val (.int xy), .val (.int yx), .val (.int xx), .val (.int (0 : Int32)), .unset, .unset, .unset] [(.long cq)])) _
  refine XS.lloadN X0.here hx rfl (hb hby at_111) rfl ?_
  show Steps p.tables e below (T.setTop (mkF m 112 #[.val (.long q1), .second, .val (.long q2), .second, .val (.long q3), .second, .val (.long q4), .second, .val (.int p5), .val (.long cq), .second, .val (.long dq), .second, .val (.ref b6), .val (.ref b8), .val (.int xy), .val (.int yx), .val (.int xx), .val (.int (0 : Int32)), .unset, .unset, .unset] [(.long q1), (.long cq)])) _
  refine XS.lcmp X0.here hx rfl (hb hby at_112) rfl ?_
  show Steps p.tables e below (T.setTop (mkF m 113 #[.val (.long q1), .second, .val (.long q2), .second, .val (.long q3), .second, .val (.long q4), .second, .val (.int p5), .val (.long cq), .second, .val (.long dq), .second, .val (.ref b6), .val (.ref b8), .val (.int xy), .val (.int yx), .val (.int xx), .val (.int (0 : Int32)), .unset, .unset, .unset] [(.int (lcmpW cq q1))])) _
  refine XS.ifYes X0.here hx rfl (pc0 := 113) (pc' := 130) rfl (hb hby at_113) rfl ((if0 _ _).trans (tlt hc113).2.2.1) (by decide) (by decide) ?_
  show Steps p.tables e below (T.setTop (mkF m 130 #[.val (.long q1), .second, .val (.long q2), .second, .val (.long q3), .second, .val (.long q4), .second, .val (.int p5), .val (.long cq), .second, .val (.long dq), .second, .val (.ref b6), .val (.ref b8), .val (.int xy), .val (.int yx), .val (.int xx), .val (.int (0 : Int32)), .unset, .unset, .unset] [])) _
  refine XS.iconst X0.here hx rfl (hb hby at_130) ?_
  show Steps p.tables e below (T.setTop (mkF m 131 #[.val (.long q1), .second, .val (.long q2), .second, .val (.long q3), .second, .val (.long q4), .second, .val (.int p5), .val (.long cq), .second, .val (.long dq), .second, .val (.ref b6), .val (.ref b8), .val (.int xy), .val (.int yx), .val (.int xx), .val (.int (0 : Int32)), .unset, .unset, .unset] [(.int (1 : Int32))])) _
  refine XS.goto X0.here hx rfl (pc0 := 131) (pc' := 135) rfl (hb hby at_131) (by decide) (by decide) ?_
  show Steps p.tables e below (T.setTop (mkF m 135 #[.val (.long q1), .second, .val (.long q2), .second, .val (.long q3), .second, .val (.long q4), .second, .val (.int p5), .val (.long cq), .second, .val (.long dq), .second, .val (.ref b6), .val (.ref b8), .val (.int xy), .val (.int yx), .val (.int xx), .val (.int (0 : Int32)), .unset, .unset, .unset] [(.int (1 : Int32))])) _
  refine XS.istore X0.here hx rfl (hb hby at_135) rfl (l' := #[.val (.long q1), .second, .val (.long q2), .second, .val (.long q3), .second, .val (.long q4), .second, .val (.int p5), .val (.long cq), .second, .val (.long dq), .second, .val (.ref b6), .val (.ref b8), .val (.int xy), .val (.int yx), .val (.int xx), .val (.int (0 : Int32)), .val (.int (1 : Int32)), .unset, .unset]) rfl ?_
  show Steps p.tables e below (T.setTop (mkF m 137 #[.val (.long q1), .second, .val (.long q2), .second, .val (.long q3), .second, .val (.long q4), .second, .val (.int p5), .val (.long cq), .second, .val (.long dq), .second, .val (.ref b6), .val (.ref b8), .val (.int xy), .val (.int yx), .val (.int xx), .val (.int (0 : Int32)), .val (.int (1 : Int32)), .unset, .unset] [])) _
  refine XS.lloadN X0.here hx rfl (hb hby at_137) rfl ?_
  show Steps p.tables e below (T.setTop (mkF m 138 #[.val (.long q1), .second, .val (.long q2), .second, .val (.long q3), .second, .val (.long q4), .second, .val (.int p5), .val (.long cq), .second, .val (.long dq), .second, .val (.ref b6), .val (.ref b8), .val (.int xy), .val (.int yx), .val (.int xx), .val (.int (0 : Int32)), .val (.int (1 : Int32)), .unset, .unset] [(.long q1)])) _
  refine XS.lload X0.here hx rfl (hb hby at_138) rfl ?_
  show Steps p.tables e below (T.setTop (mkF m 140 #[.val (.long q1), .second, .val (.long q2), .second, .val (.long q3), .second, .val (.long q4), .second, .val (.int p5), .val (.long cq), .second, .val (.long dq), .second, .val (.ref b6), .val (.ref b8), .val (.int xy), .val (.int yx), .val (.int xx), .val (.int (0 : Int32)), .val (.int (1 : Int32)), .unset, .unset] [(.long cq), (.long q1)])) _
  refine XS.lcmp X0.here hx rfl (hb hby at_140) rfl ?_
  show Steps p.tables e below (T.setTop (mkF m 141 #[.val (.long q1), .second, .val (.long q2), .second, .val (.long q3), .second, .val (.long q4), .second, .val (.int p5), .val (.long cq), .second, .val (.long dq), .second, .val (.ref b6), .val (.ref b8), .val (.int xy), .val (.int yx), .val (.int xx), .val (.int (0 : Int32)), .val (.int (1 : Int32)), .unset, .unset] [(.int (lcmpW q1 cq))])) _
  refine XS.ifYes X0.here hx rfl (pc0 := 141) (pc' := 155) rfl (hb hby at_141) rfl ((if0 _ _).trans (feq hc141).2) (by decide) (by decide) ?_
  show Steps p.tables e below (T.setTop (mkF m 155 #[.val (.long q1), .second, .val (.long q2), .second, .val (.long q3), .second, .val (.long q4), .second, .val (.int p5), .val (.long cq), .second, .val (.long dq), .second, .val (.ref b6), .val (.ref b8), .val (.int xy), .val (.int yx), .val (.int xx), .val (.int (0 : Int32)), .val (.int (1 : Int32)), .unset, .unset] [])) _
  refine XS.iconst X0.here hx rfl (hb hby at_155) ?_
  show Steps p.tables e below (T.setTop (mkF m 156 #[.val (.long q1), .second, .val (.long q2), .second, .val (.long q3), .second, .val (.long q4), .second, .val (.int p5), .val (.long cq), .second, .val (.long dq), .second, .val (.ref b6), .val (.ref b8), .val (.int xy), .val (.int yx), .val (.int xx), .val (.int (0 : Int32)), .val (.int (1 : Int32)), .unset, .unset] [(.int (0 : Int32))])) _
  refine XS.istore X0.here hx rfl (hb hby at_156) rfl (l' := #[.val (.long q1), .second, .val (.long q2), .second, .val (.long q3), .second, .val (.long q4), .second, .val (.int p5), .val (.long cq), .second, .val (.long dq), .second, .val (.ref b6), .val (.ref b8), .val (.int xy), .val (.int yx), .val (.int xx), .val (.int (0 : Int32)), .val (.int (1 : Int32)), .val (.int (0 : Int32)), .unset]) rfl ?_
  show Steps p.tables e below (T.setTop (mkF m 158 #[.val (.long q1), .second, .val (.long q2), .second, .val (.long q3), .second, .val (.long q4), .second, .val (.int p5), .val (.long cq), .second, .val (.long dq), .second, .val (.ref b6), .val (.ref b8), .val (.int xy), .val (.int yx), .val (.int xx), .val (.int (0 : Int32)), .val (.int (1 : Int32)), .val (.int (0 : Int32)), .unset] [])) _
  refine XS.iload X0.here hx rfl (hb hby at_158) rfl ?_
  show Steps p.tables e below (T.setTop (mkF m 160 #[.val (.long q1), .second, .val (.long q2), .second, .val (.long q3), .second, .val (.long q4), .second, .val (.int p5), .val (.long cq), .second, .val (.long dq), .second, .val (.ref b6), .val (.ref b8), .val (.int xy), .val (.int yx), .val (.int xx), .val (.int (0 : Int32)), .val (.int (1 : Int32)), .val (.int (0 : Int32)), .unset] [(.int (0 : Int32))])) _
  refine XS.ifYes X0.here hx rfl (pc0 := 160) (pc' := 181) rfl (hb hby at_160) rfl ((if0 _ _).trans (teq (rfl : (0 : Int32) = (0 : Int32))).1) (by decide) (by decide) ?_
  show Steps p.tables e below (T.setTop (mkF m 181 #[.val (.long q1), .second, .val (.long q2), .second, .val (.long q3), .second, .val (.long q4), .second, .val (.int p5), .val (.long cq), .second, .val (.long dq), .second, .val (.ref b6), .val (.ref b8), .val (.int xy), .val (.int yx), .val (.int xx), .val (.int (0 : Int32)), .val (.int (1 : Int32)), .val (.int (0 : Int32)), .unset] [])) _
  refine XS.iload X0.here hx rfl (hb hby at_181) rfl ?_
  show Steps p.tables e below (T.setTop (mkF m 183 #[.val (.long q1), .second, .val (.long q2), .second, .val (.long q3), .second, .val (.long q4), .second, .val (.int p5), .val (.long cq), .second, .val (.long dq), .second, .val (.ref b6), .val (.ref b8), .val (.int xy), .val (.int yx), .val (.int xx), .val (.int (0 : Int32)), .val (.int (1 : Int32)), .val (.int (0 : Int32)), .unset] [(.int xy)])) _
  refine XS.iload X0.here hx rfl (hb hby at_183) rfl ?_
  show Steps p.tables e below (T.setTop (mkF m 185 #[.val (.long q1), .second, .val (.long q2), .second, .val (.long q3), .second, .val (.long q4), .second, .val (.int p5), .val (.long cq), .second, .val (.long dq), .second, .val (.ref b6), .val (.ref b8), .val (.int xy), .val (.int yx), .val (.int xx), .val (.int (0 : Int32)), .val (.int (1 : Int32)), .val (.int (0 : Int32)), .unset] [(.int yx), (.int xy)])) _
  refine XS.icmpNo X0.here hx rfl (hb hby at_185) rfl (feq hc185).1 ?_
  show Steps p.tables e below (T.setTop (mkF m 188 #[.val (.long q1), .second, .val (.long q2), .second, .val (.long q3), .second, .val (.long q4), .second, .val (.int p5), .val (.long cq), .second, .val (.long dq), .second, .val (.ref b6), .val (.ref b8), .val (.int xy), .val (.int yx), .val (.int xx), .val (.int (0 : Int32)), .val (.int (1 : Int32)), .val (.int (0 : Int32)), .unset] [])) _
  refine XS.iconst X0.here hx rfl (hb hby at_188) ?_
  show Steps p.tables e below (T.setTop (mkF m 189 #[.val (.long q1), .second, .val (.long q2), .second, .val (.long q3), .second, .val (.long q4), .second, .val (.int p5), .val (.long cq), .second, .val (.long dq), .second, .val (.ref b6), .val (.ref b8), .val (.int xy), .val (.int yx), .val (.int xx), .val (.int (0 : Int32)), .val (.int (1 : Int32)), .val (.int (0 : Int32)), .unset] [(.int (1 : Int32))])) _
  refine XS.goto X0.here hx rfl (pc0 := 189) (pc' := 193) rfl (hb hby at_189) (by decide) (by decide) ?_
  show Steps p.tables e below (T.setTop (mkF m 193 #[.val (.long q1), .second, .val (.long q2), .second, .val (.long q3), .second, .val (.long q4), .second, .val (.int p5), .val (.long cq), .second, .val (.long dq), .second, .val (.ref b6), .val (.ref b8), .val (.int xy), .val (.int yx), .val (.int xx), .val (.int (0 : Int32)), .val (.int (1 : Int32)), .val (.int (0 : Int32)), .unset] [(.int (1 : Int32))])) _
  refine XS.istore X0.here hx rfl (hb hby at_193) rfl (l' := #[.val (.long q1), .second, .val (.long q2), .second, .val (.long q3), .second, .val (.long q4), .second, .val (.int p5), .val (.long cq), .second, .val (.long dq), .second, .val (.ref b6), .val (.ref b8), .val (.int xy), .val (.int yx), .val (.int xx), .val (.int (0 : Int32)), .val (.int (1 : Int32)), .val (.int (0 : Int32)), .val (.int (1 : Int32))]) rfl ?_
  show Steps p.tables e below (T.setTop (mkF m 195 #[.val (.long q1), .second, .val (.long q2), .second, .val (.long q3), .second, .val (.long q4), .second, .val (.int p5), .val (.long cq), .second, .val (.long dq), .second, .val (.ref b6), .val (.ref b8), .val (.int xy), .val (.int yx), .val (.int xx), .val (.int (0 : Int32)), .val (.int (1 : Int32)), .val (.int (0 : Int32)), .val (.int (1 : Int32))] [])) _
  refine XS.iload X0.here hx rfl (hb hby at_195) rfl ?_
  show Steps p.tables e below (T.setTop (mkF m 197 #[.val (.long q1), .second, .val (.long q2), .second, .val (.long q3), .second, .val (.long q4), .second, .val (.int p5), .val (.long cq), .second, .val (.long dq), .second, .val (.ref b6), .val (.ref b8), .val (.int xy), .val (.int yx), .val (.int xx), .val (.int (0 : Int32)), .val (.int (1 : Int32)), .val (.int (0 : Int32)), .val (.int (1 : Int32))] [(.int xy)])) _
  refine XS.iload X0.here hx rfl (hb hby at_197) rfl ?_
  show Steps p.tables e below (T.setTop (mkF m 199 #[.val (.long q1), .second, .val (.long q2), .second, .val (.long q3), .second, .val (.long q4), .second, .val (.int p5), .val (.long cq), .second, .val (.long dq), .second, .val (.ref b6), .val (.ref b8), .val (.int xy), .val (.int yx), .val (.int xx), .val (.int (0 : Int32)), .val (.int (1 : Int32)), .val (.int (0 : Int32)), .val (.int (1 : Int32))] [(.int (0 : Int32)), (.int xy)])) _
  refine XS.icmpNo X0.here hx rfl (hb hby at_199) rfl (teq hc199).2 ?_
  show Steps p.tables e below (T.setTop (mkF m 202 #[.val (.long q1), .second, .val (.long q2), .second, .val (.long q3), .second, .val (.long q4), .second, .val (.int p5), .val (.long cq), .second, .val (.long dq), .second, .val (.ref b6), .val (.ref b8), .val (.int xy), .val (.int yx), .val (.int xx), .val (.int (0 : Int32)), .val (.int (1 : Int32)), .val (.int (0 : Int32)), .val (.int (1 : Int32))] [])) _
  refine XS.iload X0.here hx rfl (hb hby at_202) rfl ?_
  show Steps p.tables e below (T.setTop (mkF m 204 #[.val (.long q1), .second, .val (.long q2), .second, .val (.long q3), .second, .val (.long q4), .second, .val (.int p5), .val (.long cq), .second, .val (.long dq), .second, .val (.ref b6), .val (.ref b8), .val (.int xy), .val (.int yx), .val (.int xx), .val (.int (0 : Int32)), .val (.int (1 : Int32)), .val (.int (0 : Int32)), .val (.int (1 : Int32))] [(.int yx)])) _
  refine XS.iload X0.here hx rfl (hb hby at_204) rfl ?_
  show Steps p.tables e below (T.setTop (mkF m 206 #[.val (.long q1), .second, .val (.long q2), .second, .val (.long q3), .second, .val (.long q4), .second, .val (.int p5), .val (.long cq), .second, .val (.long dq), .second, .val (.ref b6), .val (.ref b8), .val (.int xy), .val (.int yx), .val (.int xx), .val (.int (0 : Int32)), .val (.int (1 : Int32)), .val (.int (0 : Int32)), .val (.int (1 : Int32))] [(.int (1 : Int32)), (.int yx)])) _
  refine XS.icmpNo X0.here hx rfl (hb hby at_206) rfl (teq hc206).2 ?_
  show Steps p.tables e below (T.setTop (mkF m 209 #[.val (.long q1), .second, .val (.long q2), .second, .val (.long q3), .second, .val (.long q4), .second, .val (.int p5), .val (.long cq), .second, .val (.long dq), .second, .val (.ref b6), .val (.ref b8), .val (.int xy), .val (.int yx), .val (.int xx), .val (.int (0 : Int32)), .val (.int (1 : Int32)), .val (.int (0 : Int32)), .val (.int (1 : Int32))] [])) _
  refine XS.iload X0.here hx rfl (hb hby at_209) rfl ?_
  show Steps p.tables e below (T.setTop (mkF m 211 #[.val (.long q1), .second, .val (.long q2), .second, .val (.long q3), .second, .val (.long q4), .second, .val (.int p5), .val (.long cq), .second, .val (.long dq), .second, .val (.ref b6), .val (.ref b8), .val (.int xy), .val (.int yx), .val (.int xx), .val (.int (0 : Int32)), .val (.int (1 : Int32)), .val (.int (0 : Int32)), .val (.int (1 : Int32))] [(.int xx)])) _
  refine XS.ifNo X0.here hx rfl (hb hby at_211) rfl ((if0 _ _).trans (teq hc211).2) ?_
  show Steps p.tables e below (T.setTop (mkF m 214 #[.val (.long q1), .second, .val (.long q2), .second, .val (.long q3), .second, .val (.long q4), .second, .val (.int p5), .val (.long cq), .second, .val (.long dq), .second, .val (.ref b6), .val (.ref b8), .val (.int xy), .val (.int yx), .val (.int xx), .val (.int (0 : Int32)), .val (.int (1 : Int32)), .val (.int (0 : Int32)), .val (.int (1 : Int32))] [])) _
  refine XS.iload X0.here hx rfl (hb hby at_214) rfl ?_
  show Steps p.tables e below (T.setTop (mkF m 216 #[.val (.long q1), .second, .val (.long q2), .second, .val (.long q3), .second, .val (.long q4), .second, .val (.int p5), .val (.long cq), .second, .val (.long dq), .second, .val (.ref b6), .val (.ref b8), .val (.int xy), .val (.int yx), .val (.int xx), .val (.int (0 : Int32)), .val (.int (1 : Int32)), .val (.int (0 : Int32)), .val (.int (1 : Int32))] [(.int (1 : Int32))])) _
  refine XS.ifNo X0.here hx rfl (hb hby at_216) rfl ((if0 _ _).trans (feq hc216).1) ?_
  show Steps p.tables e below (T.setTop (mkF m 219 #[.val (.long q1), .second, .val (.long q2), .second, .val (.long q3), .second, .val (.long q4), .second, .val (.int p5), .val (.long cq), .second, .val (.long dq), .second, .val (.ref b6), .val (.ref b8), .val (.int xy), .val (.int yx), .val (.int xx), .val (.int (0 : Int32)), .val (.int (1 : Int32)), .val (.int (0 : Int32)), .val (.int (1 : Int32))] [])) _
  refine XS.iconst X0.here hx rfl (hb hby at_219) ?_
  show Steps p.tables e below (T.setTop (mkF m 220 #[.val (.long q1), .second, .val (.long q2), .second, .val (.long q3), .second, .val (.long q4), .second, .val (.int p5), .val (.long cq), .second, .val (.long dq), .second, .val (.ref b6), .val (.ref b8), .val (.int xy), .val (.int yx), .val (.int xx), .val (.int (0 : Int32)), .val (.int (1 : Int32)), .val (.int (0 : Int32)), .val (.int (1 : Int32))] [(.int (1 : Int32))])) _
  refine XS.goto X0.here hx rfl (pc0 := 220) (pc' := 224) rfl (hb hby at_220) (by decide) (by decide) ?_
  exact k _
set_option maxRecDepth 65536 in
set_option maxHeartbeats 40000000 in
theorem own_postC {p : Program} {l : Launch} {e : Env} {R : Room} {s : State} {m : MethodId} {args : Array Value} {below : List Frame} {meth : Method} {c : Code} {T : State} {locs : List Loc} {cells slots : Nat} {target : State} (X0 : Stand p l e R s m args below meth c T locs cells slots) (hx : p.tables.exec = Jvm.exec) (hby : c.code = code) (q1 q2 q3 q4 cq dq : Int64) (p5 xy yx xx : Int32) (b6 : Addr) (b8 : Addr) (hc85 : ¬ ((0 : Int32) < (lcmpW q1 cq))) (hc92 : (lcmpW q1 cq) = (0 : Int32)) (hc99 : (0 : Int32) < (lcmpW q2 dq)) (hc113 : ¬ ((0 : Int32) < (lcmpW cq q1))) (hc120 : (lcmpW cq q1) = (0 : Int32)) (hc127 : ¬ ((0 : Int32) < (lcmpW dq q2))) (hc141 : (lcmpW q1 cq) = (0 : Int32)) (hc148 : ¬ ((lcmpW q2 dq) = (0 : Int32))) (hc185 : ¬ (xy = yx)) (hc199 : xy = (1 : Int32)) (hc206 : yx = (0 : Int32)) (hc211 : xx = (0 : Int32)) (hc216 : ¬ ((1 : Int32) = (0 : Int32))) (k : ∀ Ls, Steps p.tables e below (T.setTop (mkF m 224 Ls [(.int (1 : Int32))])) target) : Steps p.tables e below (T.setTop (mkF m 81 #[.val (.long q1), .second, .val (.long q2), .second, .val (.long q3), .second, .val (.long q4), .second, .val (.int p5), .val (.long cq), .second, .val (.long dq), .second, .val (.ref b6), .val (.ref b8), .val (.int xy), .val (.int yx), .val (.int xx), .unset, .unset, .unset, .unset] [])) target := by
  show Steps p.tables e below (T.setTop (mkF m 81 #[.val (.long q1), .second, .val (.long q2), .second, .val (.long q3), .second, .val (.long q4), .second, .val (.int p5), .val (.long cq), .second, .val (.long dq), .second, .val (.ref b6), .val (.ref b8), .val (.int xy), .val (.int yx), .val (.int xx), .unset, .unset, .unset, .unset] [])) _
  refine XS.lloadN X0.here hx rfl (hb hby at_81) rfl ?_
  show Steps p.tables e below (T.setTop (mkF m 82 #[.val (.long q1), .second, .val (.long q2), .second, .val (.long q3), .second, .val (.long q4), .second, .val (.int p5), .val (.long cq), .second, .val (.long dq), .second, .val (.ref b6), .val (.ref b8), .val (.int xy), .val (.int yx), .val (.int xx), .unset, .unset, .unset, .unset] [(.long q1)])) _
  refine XS.lload X0.here hx rfl (hb hby at_82) rfl ?_
  show Steps p.tables e below (T.setTop (mkF m 84 #[.val (.long q1), .second, .val (.long q2), .second, .val (.long q3), .second, .val (.long q4), .second, .val (.int p5), .val (.long cq), .second, .val (.long dq), .second, .val (.ref b6), .val (.ref b8), .val (.int xy), .val (.int yx), .val (.int xx), .unset, .unset, .unset, .unset] [(.long cq), (.long q1)])) _
  refine XS.lcmp X0.here hx rfl (hb hby at_84) rfl ?_
  show Steps p.tables e below (T.setTop (mkF m 85 #[.val (.long q1), .second, .val (.long q2), .second, .val (.long q3), .second, .val (.long q4), .second, .val (.int p5), .val (.long cq), .second, .val (.long dq), .second, .val (.ref b6), .val (.ref b8), .val (.int xy), .val (.int yx), .val (.int xx), .unset, .unset, .unset, .unset] [(.int (lcmpW q1 cq))])) _
  refine XS.ifNo X0.here hx rfl (hb hby at_85) rfl ((if0 _ _).trans (flt hc85).2.2.1) ?_
  show Steps p.tables e below (T.setTop (mkF m 88 #[.val (.long q1), .second, .val (.long q2), .second, .val (.long q3), .second, .val (.long q4), .second, .val (.int p5), .val (.long cq), .second, .val (.long dq), .second, .val (.ref b6), .val (.ref b8), .val (.int xy), .val (.int yx), .val (.int xx), .unset, .unset, .unset, .unset] [])) _
  refine XS.lloadN X0.here hx rfl (hb hby at_88) rfl ?_
  show Steps p.tables e below (T.setTop (mkF m 89 #[.val (.long q1), .second, .val (.long q2), .second, .val (.long q3), .second, .val (.long q4), .second, .val (.int p5), .val (.long cq), .second, .val (.long dq), .second, .val (.ref b6), .val (.ref b8), .val (.int xy), .val (.int yx), .val (.int xx), .unset, .unset, .unset, .unset] [(.long q1)])) _
  refine XS.lload X0.here hx rfl (hb hby at_89) rfl ?_
  show Steps p.tables e below (T.setTop (mkF m 91 #[.val (.long q1), .second, .val (.long q2), .second, .val (.long q3), .second, .val (.long q4), .second, .val (.int p5), .val (.long cq), .second, .val (.long dq), .second, .val (.ref b6), .val (.ref b8), .val (.int xy), .val (.int yx), .val (.int xx), .unset, .unset, .unset, .unset] [(.long cq), (.long q1)])) _
  refine XS.lcmp X0.here hx rfl (hb hby at_91) rfl ?_
  show Steps p.tables e below (T.setTop (mkF m 92 #[.val (.long q1), .second, .val (.long q2), .second, .val (.long q3), .second, .val (.long q4), .second, .val (.int p5), .val (.long cq), .second, .val (.long dq), .second, .val (.ref b6), .val (.ref b8), .val (.int xy), .val (.int yx), .val (.int xx), .unset, .unset, .unset, .unset] [(.int (lcmpW q1 cq))])) _
  refine XS.ifNo X0.here hx rfl (hb hby at_92) rfl ((if0 _ _).trans (teq hc92).2) ?_
  show Steps p.tables e below (T.setTop (mkF m 95 #[.val (.long q1), .second, .val (.long q2), .second, .val (.long q3), .second, .val (.long q4), .second, .val (.int p5), .val (.long cq), .second, .val (.long dq), .second, .val (.ref b6), .val (.ref b8), .val (.int xy), .val (.int yx), .val (.int xx), .unset, .unset, .unset, .unset] [])) _
  refine XS.lloadN X0.here hx rfl (hb hby at_95) rfl ?_
  show Steps p.tables e below (T.setTop (mkF m 96 #[.val (.long q1), .second, .val (.long q2), .second, .val (.long q3), .second, .val (.long q4), .second, .val (.int p5), .val (.long cq), .second, .val (.long dq), .second, .val (.ref b6), .val (.ref b8), .val (.int xy), .val (.int yx), .val (.int xx), .unset, .unset, .unset, .unset] [(.long q2)])) _
  refine XS.lload X0.here hx rfl (hb hby at_96) rfl ?_
  show Steps p.tables e below (T.setTop (mkF m 98 #[.val (.long q1), .second, .val (.long q2), .second, .val (.long q3), .second, .val (.long q4), .second, .val (.int p5), .val (.long cq), .second, .val (.long dq), .second, .val (.ref b6), .val (.ref b8), .val (.int xy), .val (.int yx), .val (.int xx), .unset, .unset, .unset, .unset] [(.long dq), (.long q2)])) _
  refine XS.lcmp X0.here hx rfl (hb hby at_98) rfl ?_
  show Steps p.tables e below (T.setTop (mkF m 99 #[.val (.long q1), .second, .val (.long q2), .second, .val (.long q3), .second, .val (.long q4), .second, .val (.int p5), .val (.long cq), .second, .val (.long dq), .second, .val (.ref b6), .val (.ref b8), .val (.int xy), .val (.int yx), .val (.int xx), .unset, .unset, .unset, .unset] [(.int (lcmpW q2 dq))])) _
  refine XS.ifNo X0.here hx rfl (hb hby at_99) rfl ((if0 _ _).trans (tlt hc99).2.2.2) ?_
  show Steps p.tables e below (T.setTop (mkF m 102 #[.val (.long q1), .second, .val (.long q2), .second, .val (.long q3), .second, .val (.long q4), .second, .val (.int p5), .val (.long cq), .second, .val (.long dq), .second, .val (.ref b6), .val (.ref b8), .val (.int xy), .val (.int yx), .val (.int xx), .unset, .unset, .unset, .unset] [])) _
  refine XS.iconst X0.here hx rfl (hb hby at_102) ?_
  show Steps p.tables e below (T.setTop (mkF m 103 #[.val (.long q1), .second, .val (.long q2), .second, .val (.long q3), .second, .val (.long q4), .second, .val (.int p5), .val (.long cq), .second, .val (.long dq), .second, .val (.ref b6), .val (.ref b8), .val (.int xy), .val (.int yx), .val (.int xx), .unset, .unset, .unset, .unset] [(.int (1 : Int32))])) _
  refine XS.goto X0.here hx rfl (pc0 := 103) (pc' := 107) rfl (hb hby at_103) (by decide) (by decide) ?_
  show Steps p.tables e below (T.setTop (mkF m 107 #[.val (.long q1), .second, .val (.long q2), .second, .val (.long q3), .second, .val (.long q4), .second, .val (.int p5), .val (.long cq), .second, .val (.long dq), .second, .val (.ref b6), .val (.ref b8), .val (.int xy), .val (.int yx), .val (.int xx), .unset, .unset, .unset, .unset] [(.int (1 : Int32))])) _
  refine XS.istore X0.here hx rfl (hb hby at_107) rfl (l' := #[.val (.long q1), .second, .val (.long q2), .second, .val (.long q3), .second, .val (.long q4), .second, .val (.int p5), .val (.long cq), .second, .val (.long dq), .second, .val (.ref b6), .val (.ref b8), .val (.int xy), .val (.int yx), .val (.int xx), .val (.int (1 : Int32)), .unset, .unset, .unset]) rfl ?_
  show Steps p.tables e below (T.setTop (mkF m 109 #[.val (.long q1), .second, .val (.long q2), .second, .val (.long q3), .second, .val (.long q4), .second, .val (.int p5), .val (.long cq), .second, .val (.long dq), .second, .val (.ref b6), .val (.ref b8), .val (.int xy), .val (.int yx), .val (.int xx), .val (.int (1 : Int32)), .unset, .unset, .unset] [])) _
  refine XS.lload X0.here hx rfl (hb hby at_109) rfl ?_
  show Steps p.tables e below (T.setTop (mkF m 111 #[.val (.long q1), .second, .val (.long q2), .second, .val (.long q3), .second, .val (.long q4), .second, .val (.int p5), .val (.long cq), .second, .val (.long dq), .second, .val (.ref b6), .val (.ref b8), .val (.int xy), .val (.int yx), .val (.int xx), .val (.int (1 : Int32)), .unset, .unset, .unset] [(.long cq)])) _
  refine XS.lloadN X0.here hx rfl (hb hby at_111) rfl ?_
  show Steps p.tables e below (T.setTop (mkF m 112 #[.val (.long q1), .second, .val (.long q2), .second, .val (.long q3), .second, .val (.long q4), .second, .val (.int p5), .val (.long cq), .second, .val (.long dq), .second, .val (.ref b6), .val (.ref b8), .val (.int xy), .val (.int yx), .val (.int xx), .val (.int (1 : Int32)), .unset, .unset, .unset] [(.long q1), (.long cq)])) _
  refine XS.lcmp X0.here hx rfl (hb hby at_112) rfl ?_
  show Steps p.tables e below (T.setTop (mkF m 113 #[.val (.long q1), .second, .val (.long q2), .second, .val (.long q3), .second, .val (.long q4), .second, .val (.int p5), .val (.long cq), .second, .val (.long dq), .second, .val (.ref b6), .val (.ref b8), .val (.int xy), .val (.int yx), .val (.int xx), .val (.int (1 : Int32)), .unset, .unset, .unset] [(.int (lcmpW cq q1))])) _
  refine XS.ifNo X0.here hx rfl (hb hby at_113) rfl ((if0 _ _).trans (flt hc113).2.2.1) ?_
  show Steps p.tables e below (T.setTop (mkF m 116 #[.val (.long q1), .second, .val (.long q2), .second, .val (.long q3), .second, .val (.long q4), .second, .val (.int p5), .val (.long cq), .second, .val (.long dq), .second, .val (.ref b6), .val (.ref b8), .val (.int xy), .val (.int yx), .val (.int xx), .val (.int (1 : Int32)), .unset, .unset, .unset] [])) _
  refine XS.lload X0.here hx rfl (hb hby at_116) rfl ?_
  show Steps p.tables e below (T.setTop (mkF m 118 #[.val (.long q1), .second, .val (.long q2), .second, .val (.long q3), .second, .val (.long q4), .second, .val (.int p5), .val (.long cq), .second, .val (.long dq), .second, .val (.ref b6), .val (.ref b8), .val (.int xy), .val (.int yx), .val (.int xx), .val (.int (1 : Int32)), .unset, .unset, .unset] [(.long cq)])) _
  refine XS.lloadN X0.here hx rfl (hb hby at_118) rfl ?_
  show Steps p.tables e below (T.setTop (mkF m 119 #[.val (.long q1), .second, .val (.long q2), .second, .val (.long q3), .second, .val (.long q4), .second, .val (.int p5), .val (.long cq), .second, .val (.long dq), .second, .val (.ref b6), .val (.ref b8), .val (.int xy), .val (.int yx), .val (.int xx), .val (.int (1 : Int32)), .unset, .unset, .unset] [(.long q1), (.long cq)])) _
  refine XS.lcmp X0.here hx rfl (hb hby at_119) rfl ?_
  show Steps p.tables e below (T.setTop (mkF m 120 #[.val (.long q1), .second, .val (.long q2), .second, .val (.long q3), .second, .val (.long q4), .second, .val (.int p5), .val (.long cq), .second, .val (.long dq), .second, .val (.ref b6), .val (.ref b8), .val (.int xy), .val (.int yx), .val (.int xx), .val (.int (1 : Int32)), .unset, .unset, .unset] [(.int (lcmpW cq q1))])) _
  refine XS.ifNo X0.here hx rfl (hb hby at_120) rfl ((if0 _ _).trans (teq hc120).2) ?_
  show Steps p.tables e below (T.setTop (mkF m 123 #[.val (.long q1), .second, .val (.long q2), .second, .val (.long q3), .second, .val (.long q4), .second, .val (.int p5), .val (.long cq), .second, .val (.long dq), .second, .val (.ref b6), .val (.ref b8), .val (.int xy), .val (.int yx), .val (.int xx), .val (.int (1 : Int32)), .unset, .unset, .unset] [])) _
  refine XS.lload X0.here hx rfl (hb hby at_123) rfl ?_
  show Steps p.tables e below (T.setTop (mkF m 125 #[.val (.long q1), .second, .val (.long q2), .second, .val (.long q3), .second, .val (.long q4), .second, .val (.int p5), .val (.long cq), .second, .val (.long dq), .second, .val (.ref b6), .val (.ref b8), .val (.int xy), .val (.int yx), .val (.int xx), .val (.int (1 : Int32)), .unset, .unset, .unset] [(.long dq)])) _
  refine XS.lloadN X0.here hx rfl (hb hby at_125) rfl ?_
  show Steps p.tables e below (T.setTop (mkF m 126 #[.val (.long q1), .second, .val (.long q2), .second, .val (.long q3), .second, .val (.long q4), .second, .val (.int p5), .val (.long cq), .second, .val (.long dq), .second, .val (.ref b6), .val (.ref b8), .val (.int xy), .val (.int yx), .val (.int xx), .val (.int (1 : Int32)), .unset, .unset, .unset] [(.long q2), (.long dq)])) _
  refine XS.lcmp X0.here hx rfl (hb hby at_126) rfl ?_
  show Steps p.tables e below (T.setTop (mkF m 127 #[.val (.long q1), .second, .val (.long q2), .second, .val (.long q3), .second, .val (.long q4), .second, .val (.int p5), .val (.long cq), .second, .val (.long dq), .second, .val (.ref b6), .val (.ref b8), .val (.int xy), .val (.int yx), .val (.int xx), .val (.int (1 : Int32)), .unset, .unset, .unset] [(.int (lcmpW dq q2))])) _
  refine XS.ifYes X0.here hx rfl (pc0 := 127) (pc' := 134) rfl (hb hby at_127) rfl ((if0 _ _).trans (flt hc127).2.2.2) (by decide) (by decide) ?_
  show Steps p.tables e below (T.setTop (mkF m 134 #[.val (.long q1), .second, .val (.long q2), .second, .val (.long q3), .second, .val (.long q4), .second, .val (.int p5), .val (.long cq), .second, .val (.long dq), .second, .val (.ref b6), .val (.ref b8), .val (.int xy), .val (.int yx), .val (.int xx), .val (.int (1 : Int32)), .unset, .unset, .unset] [])) _
  refine XS.iconst X0.here hx rfl (hb hby at_134) ?_
  show Steps p.tables e below (T.setTop (mkF m 135 #[.val (.long q1), .second, .val (.long q2), .second, .val (.long q3), .second, .val (.long q4), .second, .val (.int p5), .val (.long cq), .second, .val (.long dq), .second, .val (.ref b6), .val (.ref b8), .val (.int xy), .val (.int yx), .val (.int xx), .val (.int (1 : Int32)), .unset, .unset, .unset] [(.int (0 : Int32))])) _
  refine XS.istore X0.here hx rfl (hb hby at_135) rfl (l' := #[.val (.long q1), .second, .val (.long q2), .second, .val (.long q3), .second, .val (.long q4), .second, .val (.int p5), .val (.long cq), .second, .val (.long dq), .second, .val (.ref b6), .val (.ref b8), .val (.int xy), .val (.int yx), .val (.int xx), .val (.int (1 : Int32)), .val (.int (0 : Int32)), .unset, .unset]) rfl ?_
  show Steps p.tables e below (T.setTop (mkF m 137 #[.val (.long q1), .second, .val (.long q2), .second, .val (.long q3), .second, .val (.long q4), .second, .val (.int p5), .val (.long cq), .second, .val (.long dq), .second, .val (.ref b6), .val (.ref b8), .val (.int xy), .val (.int yx), .val (.int xx), .val (.int (1 : Int32)), .val (.int (0 : Int32)), .unset, .unset] [])) _
  refine XS.lloadN X0.here hx rfl (hb hby at_137) rfl ?_
  show Steps p.tables e below (T.setTop (mkF m 138 #[.val (.long q1), .second, .val (.long q2), .second, .val (.long q3), .second, .val (.long q4), .second, .val (.int p5), .val (.long cq), .second, .val (.long dq), .second, .val (.ref b6), .val (.ref b8), .val (.int xy), .val (.int yx), .val (.int xx), .val (.int (1 : Int32)), .val (.int (0 : Int32)), .unset, .unset] [(.long q1)])) _
  refine XS.lload X0.here hx rfl (hb hby at_138) rfl ?_
  show Steps p.tables e below (T.setTop (mkF m 140 #[.val (.long q1), .second, .val (.long q2), .second, .val (.long q3), .second, .val (.long q4), .second, .val (.int p5), .val (.long cq), .second, .val (.long dq), .second, .val (.ref b6), .val (.ref b8), .val (.int xy), .val (.int yx), .val (.int xx), .val (.int (1 : Int32)), .val (.int (0 : Int32)), .unset, .unset] [(.long cq), (.long q1)])) _
  refine XS.lcmp X0.here hx rfl (hb hby at_140) rfl ?_
  show Steps p.tables e below (T.setTop (mkF m 141 #[.val (.long q1), .second, .val (.long q2), .second, .val (.long q3), .second, .val (.long q4), .second, .val (.int p5), .val (.long cq), .second, .val (.long dq), .second, .val (.ref b6), .val (.ref b8), .val (.int xy), .val (.int yx), .val (.int xx), .val (.int (1 : Int32)), .val (.int (0 : Int32)), .unset, .unset] [(.int (lcmpW q1 cq))])) _
  refine XS.ifNo X0.here hx rfl (hb hby at_141) rfl ((if0 _ _).trans (teq hc141).2) ?_
  show Steps p.tables e below (T.setTop (mkF m 144 #[.val (.long q1), .second, .val (.long q2), .second, .val (.long q3), .second, .val (.long q4), .second, .val (.int p5), .val (.long cq), .second, .val (.long dq), .second, .val (.ref b6), .val (.ref b8), .val (.int xy), .val (.int yx), .val (.int xx), .val (.int (1 : Int32)), .val (.int (0 : Int32)), .unset, .unset] [])) _
  refine XS.lloadN X0.here hx rfl (hb hby at_144) rfl ?_
  show Steps p.tables e below (T.setTop (mkF m 145 #[.val (.long q1), .second, .val (.long q2), .second, .val (.long q3), .second, .val (.long q4), .second, .val (.int p5), .val (.long cq), .second, .val (.long dq), .second, .val (.ref b6), .val (.ref b8), .val (.int xy), .val (.int yx), .val (.int xx), .val (.int (1 : Int32)), .val (.int (0 : Int32)), .unset, .unset] [(.long q2)])) _
  refine XS.lload X0.here hx rfl (hb hby at_145) rfl ?_
  show Steps p.tables e below (T.setTop (mkF m 147 #[.val (.long q1), .second, .val (.long q2), .second, .val (.long q3), .second, .val (.long q4), .second, .val (.int p5), .val (.long cq), .second, .val (.long dq), .second, .val (.ref b6), .val (.ref b8), .val (.int xy), .val (.int yx), .val (.int xx), .val (.int (1 : Int32)), .val (.int (0 : Int32)), .unset, .unset] [(.long dq), (.long q2)])) _
  refine XS.lcmp X0.here hx rfl (hb hby at_147) rfl ?_
  show Steps p.tables e below (T.setTop (mkF m 148 #[.val (.long q1), .second, .val (.long q2), .second, .val (.long q3), .second, .val (.long q4), .second, .val (.int p5), .val (.long cq), .second, .val (.long dq), .second, .val (.ref b6), .val (.ref b8), .val (.int xy), .val (.int yx), .val (.int xx), .val (.int (1 : Int32)), .val (.int (0 : Int32)), .unset, .unset] [(.int (lcmpW q2 dq))])) _
  refine XS.ifYes X0.here hx rfl (pc0 := 148) (pc' := 155) rfl (hb hby at_148) rfl ((if0 _ _).trans (feq hc148).2) (by decide) (by decide) ?_
  show Steps p.tables e below (T.setTop (mkF m 155 #[.val (.long q1), .second, .val (.long q2), .second, .val (.long q3), .second, .val (.long q4), .second, .val (.int p5), .val (.long cq), .second, .val (.long dq), .second, .val (.ref b6), .val (.ref b8), .val (.int xy), .val (.int yx), .val (.int xx), .val (.int (1 : Int32)), .val (.int (0 : Int32)), .unset, .unset] [])) _
  refine XS.iconst X0.here hx rfl (hb hby at_155) ?_
  show Steps p.tables e below (T.setTop (mkF m 156 #[.val (.long q1), .second, .val (.long q2), .second, .val (.long q3), .second, .val (.long q4), .second, .val (.int p5), .val (.long cq), .second, .val (.long dq), .second, .val (.ref b6), .val (.ref b8), .val (.int xy), .val (.int yx), .val (.int xx), .val (.int (1 : Int32)), .val (.int (0 : Int32)), .unset, .unset] [(.int (0 : Int32))])) _
  refine XS.istore X0.here hx rfl (hb hby at_156) rfl (l' := #[.val (.long q1), .second, .val (.long q2), .second, .val (.long q3), .second, .val (.long q4), .second, .val (.int p5), .val (.long cq), .second, .val (.long dq), .second, .val (.ref b6), .val (.ref b8), .val (.int xy), .val (.int yx), .val (.int xx), .val (.int (1 : Int32)), .val (.int (0 : Int32)), .val (.int (0 : Int32)), .unset]) rfl ?_
  show Steps p.tables e below (T.setTop (mkF m 158 #[.val (.long q1), .second, .val (.long q2), .second, .val (.long q3), .second, .val (.long q4), .second, .val (.int p5), .val (.long cq), .second, .val (.long dq), .second, .val (.ref b6), .val (.ref b8), .val (.int xy), .val (.int yx), .val (.int xx), .val (.int (1 : Int32)), .val (.int (0 : Int32)), .val (.int (0 : Int32)), .unset] [])) _
  refine XS.iload X0.here hx rfl (hb hby at_158) rfl ?_
  show Steps p.tables e below (T.setTop (mkF m 160 #[.val (.long q1), .second, .val (.long q2), .second, .val (.long q3), .second, .val (.long q4), .second, .val (.int p5), .val (.long cq), .second, .val (.long dq), .second, .val (.ref b6), .val (.ref b8), .val (.int xy), .val (.int yx), .val (.int xx), .val (.int (1 : Int32)), .val (.int (0 : Int32)), .val (.int (0 : Int32)), .unset] [(.int (0 : Int32))])) _
  refine XS.ifYes X0.here hx rfl (pc0 := 160) (pc' := 181) rfl (hb hby at_160) rfl ((if0 _ _).trans (teq (rfl : (0 : Int32) = (0 : Int32))).1) (by decide) (by decide) ?_
  show Steps p.tables e below (T.setTop (mkF m 181 #[.val (.long q1), .second, .val (.long q2), .second, .val (.long q3), .second, .val (.long q4), .second, .val (.int p5), .val (.long cq), .second, .val (.long dq), .second, .val (.ref b6), .val (.ref b8), .val (.int xy), .val (.int yx), .val (.int xx), .val (.int (1 : Int32)), .val (.int (0 : Int32)), .val (.int (0 : Int32)), .unset] [])) _
  refine XS.iload X0.here hx rfl (hb hby at_181) rfl ?_
  show Steps p.tables e below (T.setTop (mkF m 183 #[.val (.long q1), .second, .val (.long q2), .second, .val (.long q3), .second, .val (.long q4), .second, .val (.int p5), .val (.long cq), .second, .val (.long dq), .second, .val (.ref b6), .val (.ref b8), .val (.int xy), .val (.int yx), .val (.int xx), .val (.int (1 : Int32)), .val (.int (0 : Int32)), .val (.int (0 : Int32)), .unset] [(.int xy)])) _
  refine XS.iload X0.here hx rfl (hb hby at_183) rfl ?_
  show Steps p.tables e below (T.setTop (mkF m 185 #[.val (.long q1), .second, .val (.long q2), .second, .val (.long q3), .second, .val (.long q4), .second, .val (.int p5), .val (.long cq), .second, .val (.long dq), .second, .val (.ref b6), .val (.ref b8), .val (.int xy), .val (.int yx), .val (.int xx), .val (.int (1 : Int32)), .val (.int (0 : Int32)), .val (.int (0 : Int32)), .unset] [(.int yx), (.int xy)])) _
  refine XS.icmpNo X0.here hx rfl (hb hby at_185) rfl (feq hc185).1 ?_
  show Steps p.tables e below (T.setTop (mkF m 188 #[.val (.long q1), .second, .val (.long q2), .second, .val (.long q3), .second, .val (.long q4), .second, .val (.int p5), .val (.long cq), .second, .val (.long dq), .second, .val (.ref b6), .val (.ref b8), .val (.int xy), .val (.int yx), .val (.int xx), .val (.int (1 : Int32)), .val (.int (0 : Int32)), .val (.int (0 : Int32)), .unset] [])) _
  refine XS.iconst X0.here hx rfl (hb hby at_188) ?_
  show Steps p.tables e below (T.setTop (mkF m 189 #[.val (.long q1), .second, .val (.long q2), .second, .val (.long q3), .second, .val (.long q4), .second, .val (.int p5), .val (.long cq), .second, .val (.long dq), .second, .val (.ref b6), .val (.ref b8), .val (.int xy), .val (.int yx), .val (.int xx), .val (.int (1 : Int32)), .val (.int (0 : Int32)), .val (.int (0 : Int32)), .unset] [(.int (1 : Int32))])) _
  refine XS.goto X0.here hx rfl (pc0 := 189) (pc' := 193) rfl (hb hby at_189) (by decide) (by decide) ?_
  show Steps p.tables e below (T.setTop (mkF m 193 #[.val (.long q1), .second, .val (.long q2), .second, .val (.long q3), .second, .val (.long q4), .second, .val (.int p5), .val (.long cq), .second, .val (.long dq), .second, .val (.ref b6), .val (.ref b8), .val (.int xy), .val (.int yx), .val (.int xx), .val (.int (1 : Int32)), .val (.int (0 : Int32)), .val (.int (0 : Int32)), .unset] [(.int (1 : Int32))])) _
  refine XS.istore X0.here hx rfl (hb hby at_193) rfl (l' := #[.val (.long q1), .second, .val (.long q2), .second, .val (.long q3), .second, .val (.long q4), .second, .val (.int p5), .val (.long cq), .second, .val (.long dq), .second, .val (.ref b6), .val (.ref b8), .val (.int xy), .val (.int yx), .val (.int xx), .val (.int (1 : Int32)), .val (.int (0 : Int32)), .val (.int (0 : Int32)), .val (.int (1 : Int32))]) rfl ?_
  show Steps p.tables e below (T.setTop (mkF m 195 #[.val (.long q1), .second, .val (.long q2), .second, .val (.long q3), .second, .val (.long q4), .second, .val (.int p5), .val (.long cq), .second, .val (.long dq), .second, .val (.ref b6), .val (.ref b8), .val (.int xy), .val (.int yx), .val (.int xx), .val (.int (1 : Int32)), .val (.int (0 : Int32)), .val (.int (0 : Int32)), .val (.int (1 : Int32))] [])) _
  refine XS.iload X0.here hx rfl (hb hby at_195) rfl ?_
  show Steps p.tables e below (T.setTop (mkF m 197 #[.val (.long q1), .second, .val (.long q2), .second, .val (.long q3), .second, .val (.long q4), .second, .val (.int p5), .val (.long cq), .second, .val (.long dq), .second, .val (.ref b6), .val (.ref b8), .val (.int xy), .val (.int yx), .val (.int xx), .val (.int (1 : Int32)), .val (.int (0 : Int32)), .val (.int (0 : Int32)), .val (.int (1 : Int32))] [(.int xy)])) _
  refine XS.iload X0.here hx rfl (hb hby at_197) rfl ?_
  show Steps p.tables e below (T.setTop (mkF m 199 #[.val (.long q1), .second, .val (.long q2), .second, .val (.long q3), .second, .val (.long q4), .second, .val (.int p5), .val (.long cq), .second, .val (.long dq), .second, .val (.ref b6), .val (.ref b8), .val (.int xy), .val (.int yx), .val (.int xx), .val (.int (1 : Int32)), .val (.int (0 : Int32)), .val (.int (0 : Int32)), .val (.int (1 : Int32))] [(.int (1 : Int32)), (.int xy)])) _
  refine XS.icmpNo X0.here hx rfl (hb hby at_199) rfl (teq hc199).2 ?_
  show Steps p.tables e below (T.setTop (mkF m 202 #[.val (.long q1), .second, .val (.long q2), .second, .val (.long q3), .second, .val (.long q4), .second, .val (.int p5), .val (.long cq), .second, .val (.long dq), .second, .val (.ref b6), .val (.ref b8), .val (.int xy), .val (.int yx), .val (.int xx), .val (.int (1 : Int32)), .val (.int (0 : Int32)), .val (.int (0 : Int32)), .val (.int (1 : Int32))] [])) _
  refine XS.iload X0.here hx rfl (hb hby at_202) rfl ?_
  show Steps p.tables e below (T.setTop (mkF m 204 #[.val (.long q1), .second, .val (.long q2), .second, .val (.long q3), .second, .val (.long q4), .second, .val (.int p5), .val (.long cq), .second, .val (.long dq), .second, .val (.ref b6), .val (.ref b8), .val (.int xy), .val (.int yx), .val (.int xx), .val (.int (1 : Int32)), .val (.int (0 : Int32)), .val (.int (0 : Int32)), .val (.int (1 : Int32))] [(.int yx)])) _
  refine XS.iload X0.here hx rfl (hb hby at_204) rfl ?_
  show Steps p.tables e below (T.setTop (mkF m 206 #[.val (.long q1), .second, .val (.long q2), .second, .val (.long q3), .second, .val (.long q4), .second, .val (.int p5), .val (.long cq), .second, .val (.long dq), .second, .val (.ref b6), .val (.ref b8), .val (.int xy), .val (.int yx), .val (.int xx), .val (.int (1 : Int32)), .val (.int (0 : Int32)), .val (.int (0 : Int32)), .val (.int (1 : Int32))] [(.int (0 : Int32)), (.int yx)])) _
  refine XS.icmpNo X0.here hx rfl (hb hby at_206) rfl (teq hc206).2 ?_
  show Steps p.tables e below (T.setTop (mkF m 209 #[.val (.long q1), .second, .val (.long q2), .second, .val (.long q3), .second, .val (.long q4), .second, .val (.int p5), .val (.long cq), .second, .val (.long dq), .second, .val (.ref b6), .val (.ref b8), .val (.int xy), .val (.int yx), .val (.int xx), .val (.int (1 : Int32)), .val (.int (0 : Int32)), .val (.int (0 : Int32)), .val (.int (1 : Int32))] [])) _
  refine XS.iload X0.here hx rfl (hb hby at_209) rfl ?_
  show Steps p.tables e below (T.setTop (mkF m 211 #[.val (.long q1), .second, .val (.long q2), .second, .val (.long q3), .second, .val (.long q4), .second, .val (.int p5), .val (.long cq), .second, .val (.long dq), .second, .val (.ref b6), .val (.ref b8), .val (.int xy), .val (.int yx), .val (.int xx), .val (.int (1 : Int32)), .val (.int (0 : Int32)), .val (.int (0 : Int32)), .val (.int (1 : Int32))] [(.int xx)])) _
  refine XS.ifNo X0.here hx rfl (hb hby at_211) rfl ((if0 _ _).trans (teq hc211).2) ?_
  show Steps p.tables e below (T.setTop (mkF m 214 #[.val (.long q1), .second, .val (.long q2), .second, .val (.long q3), .second, .val (.long q4), .second, .val (.int p5), .val (.long cq), .second, .val (.long dq), .second, .val (.ref b6), .val (.ref b8), .val (.int xy), .val (.int yx), .val (.int xx), .val (.int (1 : Int32)), .val (.int (0 : Int32)), .val (.int (0 : Int32)), .val (.int (1 : Int32))] [])) _
  refine XS.iload X0.here hx rfl (hb hby at_214) rfl ?_
  show Steps p.tables e below (T.setTop (mkF m 216 #[.val (.long q1), .second, .val (.long q2), .second, .val (.long q3), .second, .val (.long q4), .second, .val (.int p5), .val (.long cq), .second, .val (.long dq), .second, .val (.ref b6), .val (.ref b8), .val (.int xy), .val (.int yx), .val (.int xx), .val (.int (1 : Int32)), .val (.int (0 : Int32)), .val (.int (0 : Int32)), .val (.int (1 : Int32))] [(.int (1 : Int32))])) _
  refine XS.ifNo X0.here hx rfl (hb hby at_216) rfl ((if0 _ _).trans (feq hc216).1) ?_
  show Steps p.tables e below (T.setTop (mkF m 219 #[.val (.long q1), .second, .val (.long q2), .second, .val (.long q3), .second, .val (.long q4), .second, .val (.int p5), .val (.long cq), .second, .val (.long dq), .second, .val (.ref b6), .val (.ref b8), .val (.int xy), .val (.int yx), .val (.int xx), .val (.int (1 : Int32)), .val (.int (0 : Int32)), .val (.int (0 : Int32)), .val (.int (1 : Int32))] [])) _
  refine XS.iconst X0.here hx rfl (hb hby at_219) ?_
  show Steps p.tables e below (T.setTop (mkF m 220 #[.val (.long q1), .second, .val (.long q2), .second, .val (.long q3), .second, .val (.long q4), .second, .val (.int p5), .val (.long cq), .second, .val (.long dq), .second, .val (.ref b6), .val (.ref b8), .val (.int xy), .val (.int yx), .val (.int xx), .val (.int (1 : Int32)), .val (.int (0 : Int32)), .val (.int (0 : Int32)), .val (.int (1 : Int32))] [(.int (1 : Int32))])) _
  refine XS.goto X0.here hx rfl (pc0 := 220) (pc' := 224) rfl (hb hby at_220) (by decide) (by decide) ?_
  exact k _
set_option maxRecDepth 65536 in
set_option maxHeartbeats 40000000 in
theorem own_postD {p : Program} {l : Launch} {e : Env} {R : Room} {s : State} {m : MethodId} {args : Array Value} {below : List Frame} {meth : Method} {c : Code} {T : State} {locs : List Loc} {cells slots : Nat} {target : State} (X0 : Stand p l e R s m args below meth c T locs cells slots) (hx : p.tables.exec = Jvm.exec) (hby : c.code = code) (q1 q2 q3 q4 cq dq : Int64) (p5 xy yx xx : Int32) (b6 : Addr) (b8 : Addr) (hc85 : ¬ ((0 : Int32) < (lcmpW q1 cq))) (hc92 : (lcmpW q1 cq) = (0 : Int32)) (hc99 : ¬ ((0 : Int32) < (lcmpW q2 dq))) (hc113 : ¬ ((0 : Int32) < (lcmpW cq q1))) (hc120 : (lcmpW cq q1) = (0 : Int32)) (hc127 : (0 : Int32) < (lcmpW dq q2)) (hc141 : (lcmpW q1 cq) = (0 : Int32)) (hc148 : ¬ ((lcmpW q2 dq) = (0 : Int32))) (hc185 : ¬ (xy = yx)) (hc199 : xy = (0 : Int32)) (hc206 : yx = (1 : Int32)) (hc211 : xx = (0 : Int32)) (hc216 : ¬ ((1 : Int32) = (0 : Int32))) (k : ∀ Ls, Steps p.tables e below (T.setTop (mkF m 224 Ls [(.int (1 : Int32))])) target) : Steps p.tables e below (T.setTop (mkF m 81 #[.val (.long q1), .second, .val (.long q2), .second, .val (.long q3), .second, .val (.long q4), .second, .val (.int p5), .val (.long cq), .second, .val (.long dq), .second, .val (.ref b6), .val (.ref b8), .val (.int xy), .val (.int yx), .val (.int xx), .unset, .unset, .unset, .unset] [])) target := by
  show Steps p.tables e below (T.setTop (mkF m 81 #[.val (.long q1), .second, .val (.long q2), .second, .val (.long q3), .second, .val (.long q4), .second, .val (.int p5), .val (.long cq), .second, .val (.long dq), .second, .val (.ref b6), .val (.ref b8), .val (.int xy), .val (.int yx), .val (.int xx), .unset, .unset, .unset, .unset] [])) _
  refine XS.lloadN X0.here hx rfl (hb hby at_81) rfl ?_
  show Steps p.tables e below (T.setTop (mkF m 82 #[.val (.long q1), .second, .val (.long q2), .second, .val (.long q3), .second, .val (.long q4), .second, .val (.int p5), .val (.long cq), .second, .val (.long dq), .second, .val (.ref b6), .val (.ref b8), .val (.int xy), .val (.int yx), .val (.int xx), .unset, .unset, .unset, .unset] [(.long q1)])) _
  refine XS.lload X0.here hx rfl (hb hby at_82) rfl ?_
  show Steps p.tables e below (T.setTop (mkF m 84 #[.val (.long q1), .second, .val (.long q2), .second, .val (.long q3), .second, .val (.long q4), .second, .val (.int p5), .val (.long cq), .second, .val (.long dq), .second, .val (.ref b6), .val (.ref b8), .val (.int xy), .val (.int yx), .val (.int xx), .unset, .unset, .unset, .unset] [(.long cq), (.long q1)])) _
  refine XS.lcmp X0.here hx rfl (hb hby at_84) rfl ?_
  show Steps p.tables e below (T.setTop (mkF m 85 #[.val (.long q1), .second, .val (.long q2), .second, .val (.long q3), .second, .val (.long q4), .second, .val (.int p5), .val (.long cq), .second, .val (.long dq), .second, .val (.ref b6), .val (.ref b8), .val (.int xy), .val (.int yx), .val (.int xx), .unset, .unset, .unset, .unset] [(.int (lcmpW q1 cq))])) _
  refine XS.ifNo X0.here hx rfl (hb hby at_85) rfl ((if0 _ _).trans (flt hc85).2.2.1) ?_
  show Steps p.tables e below (T.setTop (mkF m 88 #[.val (.long q1), .second, .val (.long q2), .second, .val (.long q3), .second, .val (.long q4), .second, .val (.int p5), .val (.long cq), .second, .val (.long dq), .second, .val (.ref b6), .val (.ref b8), .val (.int xy), .val (.int yx), .val (.int xx), .unset, .unset, .unset, .unset] [])) _
  refine XS.lloadN X0.here hx rfl (hb hby at_88) rfl ?_
  show Steps p.tables e below (T.setTop (mkF m 89 #[.val (.long q1), .second, .val (.long q2), .second, .val (.long q3), .second, .val (.long q4), .second, .val (.int p5), .val (.long cq), .second, .val (.long dq), .second, .val (.ref b6), .val (.ref b8), .val (.int xy), .val (.int yx), .val (.int xx), .unset, .unset, .unset, .unset] [(.long q1)])) _
  refine XS.lload X0.here hx rfl (hb hby at_89) rfl ?_
  show Steps p.tables e below (T.setTop (mkF m 91 #[.val (.long q1), .second, .val (.long q2), .second, .val (.long q3), .second, .val (.long q4), .second, .val (.int p5), .val (.long cq), .second, .val (.long dq), .second, .val (.ref b6), .val (.ref b8), .val (.int xy), .val (.int yx), .val (.int xx), .unset, .unset, .unset, .unset] [(.long cq), (.long q1)])) _
  refine XS.lcmp X0.here hx rfl (hb hby at_91) rfl ?_
  show Steps p.tables e below (T.setTop (mkF m 92 #[.val (.long q1), .second, .val (.long q2), .second, .val (.long q3), .second, .val (.long q4), .second, .val (.int p5), .val (.long cq), .second, .val (.long dq), .second, .val (.ref b6), .val (.ref b8), .val (.int xy), .val (.int yx), .val (.int xx), .unset, .unset, .unset, .unset] [(.int (lcmpW q1 cq))])) _
  refine XS.ifNo X0.here hx rfl (hb hby at_92) rfl ((if0 _ _).trans (teq hc92).2) ?_
  show Steps p.tables e below (T.setTop (mkF m 95 #[.val (.long q1), .second, .val (.long q2), .second, .val (.long q3), .second, .val (.long q4), .second, .val (.int p5), .val (.long cq), .second, .val (.long dq), .second, .val (.ref b6), .val (.ref b8), .val (.int xy), .val (.int yx), .val (.int xx), .unset, .unset, .unset, .unset] [])) _
  refine XS.lloadN X0.here hx rfl (hb hby at_95) rfl ?_
  show Steps p.tables e below (T.setTop (mkF m 96 #[.val (.long q1), .second, .val (.long q2), .second, .val (.long q3), .second, .val (.long q4), .second, .val (.int p5), .val (.long cq), .second, .val (.long dq), .second, .val (.ref b6), .val (.ref b8), .val (.int xy), .val (.int yx), .val (.int xx), .unset, .unset, .unset, .unset] [(.long q2)])) _
  refine XS.lload X0.here hx rfl (hb hby at_96) rfl ?_
  show Steps p.tables e below (T.setTop (mkF m 98 #[.val (.long q1), .second, .val (.long q2), .second, .val (.long q3), .second, .val (.long q4), .second, .val (.int p5), .val (.long cq), .second, .val (.long dq), .second, .val (.ref b6), .val (.ref b8), .val (.int xy), .val (.int yx), .val (.int xx), .unset, .unset, .unset, .unset] [(.long dq), (.long q2)])) _
  refine XS.lcmp X0.here hx rfl (hb hby at_98) rfl ?_
  show Steps p.tables e below (T.setTop (mkF m 99 #[.val (.long q1), .second, .val (.long q2), .second, .val (.long q3), .second, .val (.long q4), .second, .val (.int p5), .val (.long cq), .second, .val (.long dq), .second, .val (.ref b6), .val (.ref b8), .val (.int xy), .val (.int yx), .val (.int xx), .unset, .unset, .unset, .unset] [(.int (lcmpW q2 dq))])) _
  refine XS.ifYes X0.here hx rfl (pc0 := 99) (pc' := 106) rfl (hb hby at_99) rfl ((if0 _ _).trans (flt hc99).2.2.2) (by decide) (by decide) ?_
  show Steps p.tables e below (T.setTop (mkF m 106 #[.val (.long q1), .second, .val (.long q2), .second, .val (.long q3), .second, .val (.long q4), .second, .val (.int p5), .val (.long cq), .second, .val (.long dq), .second, .val (.ref b6), .val (.ref b8), .val (.int xy), .val (.int yx), .val (.int xx), .unset, .unset, .unset, .unset] [])) _
  refine XS.iconst X0.here hx rfl (hb hby at_106) ?_
  show Steps p.tables e below (T.setTop (mkF m 107 #[.val (.long q1), .second, .val (.long q2), .second, .val (.long q3), .second, .val (.long q4), .second, .val (.int p5), .val (.long cq), .second, .val (.long dq), .second, .val (.ref b6), .val (.ref b8), .val (.int xy), .val (.int yx), .val (.int xx), .unset, .unset, .unset, .unset] [(.int (0 : Int32))])) _
  refine XS.istore X0.here hx rfl (hb hby at_107) rfl (l' := #[.val (.long q1), .second, .val (.long q2), .second, .val (.long q3), .second, .val (.long q4), .second, .val (.int p5), .val (.long cq), .second, .val (.long dq), .second, .val (.ref b6), .val (.ref b8), .val (.int xy), .val (.int yx), .val (.int xx), .val (.int (0 : Int32)), .unset, .unset, .unset]) rfl ?_
  show Steps p.tables e below (T.setTop (mkF m 109 #[.val (.long q1), .second, .val (.long q2), .second, .val (.long q3), .second, .val (.long q4), .second, .val (.int p5), .val (.long cq), .second, .val (.long dq), .second, .val (.ref b6), .val (.ref b8), .val (.int xy), .val (.int yx), .val (.int xx), .val (.int (0 : Int32)), .unset, .unset, .unset] [])) _
  refine XS.lload X0.here hx rfl (hb hby at_109) rfl ?_
  show Steps p.tables e below (T.setTop (mkF m 111 #[.val (.long q1), .second, .val (.long q2), .second, .val (.long q3), .second, .val (.long q4), .second, .val (.int p5), .val (.long cq), .second, .val (.long dq), .second, .val (.ref b6), .val (.ref b8), .val (.int xy), .val (.int yx), .val (.int xx), .val (.int (0 : Int32)), .unset, .unset, .unset] [(.long cq)])) _
  refine XS.lloadN X0.here hx rfl (hb hby at_111) rfl ?_
  show Steps p.tables e below (T.setTop (mkF m 112 #[.val (.long q1), .second, .val (.long q2), .second, .val (.long q3), .second, .val (.long q4), .second, .val (.int p5), .val (.long cq), .second, .val (.long dq), .second, .val (.ref b6), .val (.ref b8), .val (.int xy), .val (.int yx), .val (.int xx), .val (.int (0 : Int32)), .unset, .unset, .unset] [(.long q1), (.long cq)])) _
  refine XS.lcmp X0.here hx rfl (hb hby at_112) rfl ?_
  show Steps p.tables e below (T.setTop (mkF m 113 #[.val (.long q1), .second, .val (.long q2), .second, .val (.long q3), .second, .val (.long q4), .second, .val (.int p5), .val (.long cq), .second, .val (.long dq), .second, .val (.ref b6), .val (.ref b8), .val (.int xy), .val (.int yx), .val (.int xx), .val (.int (0 : Int32)), .unset, .unset, .unset] [(.int (lcmpW cq q1))])) _
  refine XS.ifNo X0.here hx rfl (hb hby at_113) rfl ((if0 _ _).trans (flt hc113).2.2.1) ?_
  show Steps p.tables e below (T.setTop (mkF m 116 #[.val (.long q1), .second, .val (.long q2), .second, .val (.long q3), .second, .val (.long q4), .second, .val (.int p5), .val (.long cq), .second, .val (.long dq), .second, .val (.ref b6), .val (.ref b8), .val (.int xy), .val (.int yx), .val (.int xx), .val (.int (0 : Int32)), .unset, .unset, .unset] [])) _
  refine XS.lload X0.here hx rfl (hb hby at_116) rfl ?_
  show Steps p.tables e below (T.setTop (mkF m 118 #[.val (.long q1), .second, .val (.long q2), .second, .val (.long q3), .second, .val (.long q4), .second, .val (.int p5), .val (.long cq), .second, .val (.long dq), .second, .val (.ref b6), .val (.ref b8), .val (.int xy), .val (.int yx), .val (.int xx), .val (.int (0 : Int32)), .unset, .unset, .unset] [(.long cq)])) _
  refine XS.lloadN X0.here hx rfl (hb hby at_118) rfl ?_
  show Steps p.tables e below (T.setTop (mkF m 119 #[.val (.long q1), .second, .val (.long q2), .second, .val (.long q3), .second, .val (.long q4), .second, .val (.int p5), .val (.long cq), .second, .val (.long dq), .second, .val (.ref b6), .val (.ref b8), .val (.int xy), .val (.int yx), .val (.int xx), .val (.int (0 : Int32)), .unset, .unset, .unset] [(.long q1), (.long cq)])) _
  refine XS.lcmp X0.here hx rfl (hb hby at_119) rfl ?_
  show Steps p.tables e below (T.setTop (mkF m 120 #[.val (.long q1), .second, .val (.long q2), .second, .val (.long q3), .second, .val (.long q4), .second, .val (.int p5), .val (.long cq), .second, .val (.long dq), .second, .val (.ref b6), .val (.ref b8), .val (.int xy), .val (.int yx), .val (.int xx), .val (.int (0 : Int32)), .unset, .unset, .unset] [(.int (lcmpW cq q1))])) _
  refine XS.ifNo X0.here hx rfl (hb hby at_120) rfl ((if0 _ _).trans (teq hc120).2) ?_
  show Steps p.tables e below (T.setTop (mkF m 123 #[.val (.long q1), .second, .val (.long q2), .second, .val (.long q3), .second, .val (.long q4), .second, .val (.int p5), .val (.long cq), .second, .val (.long dq), .second, .val (.ref b6), .val (.ref b8), .val (.int xy), .val (.int yx), .val (.int xx), .val (.int (0 : Int32)), .unset, .unset, .unset] [])) _
  refine XS.lload X0.here hx rfl (hb hby at_123) rfl ?_
  show Steps p.tables e below (T.setTop (mkF m 125 #[.val (.long q1), .second, .val (.long q2), .second, .val (.long q3), .second, .val (.long q4), .second, .val (.int p5), .val (.long cq), .second, .val (.long dq), .second, .val (.ref b6), .val (.ref b8), .val (.int xy), .val (.int yx), .val (.int xx), .val (.int (0 : Int32)), .unset, .unset, .unset] [(.long dq)])) _
  refine XS.lloadN X0.here hx rfl (hb hby at_125) rfl ?_
  show Steps p.tables e below (T.setTop (mkF m 126 #[.val (.long q1), .second, .val (.long q2), .second, .val (.long q3), .second, .val (.long q4), .second, .val (.int p5), .val (.long cq), .second, .val (.long dq), .second, .val (.ref b6), .val (.ref b8), .val (.int xy), .val (.int yx), .val (.int xx), .val (.int (0 : Int32)), .unset, .unset, .unset] [(.long q2), (.long dq)])) _
  refine XS.lcmp X0.here hx rfl (hb hby at_126) rfl ?_
  show Steps p.tables e below (T.setTop (mkF m 127 #[.val (.long q1), .second, .val (.long q2), .second, .val (.long q3), .second, .val (.long q4), .second, .val (.int p5), .val (.long cq), .second, .val (.long dq), .second, .val (.ref b6), .val (.ref b8), .val (.int xy), .val (.int yx), .val (.int xx), .val (.int (0 : Int32)), .unset, .unset, .unset] [(.int (lcmpW dq q2))])) _
  refine XS.ifNo X0.here hx rfl (hb hby at_127) rfl ((if0 _ _).trans (tlt hc127).2.2.2) ?_
  show Steps p.tables e below (T.setTop (mkF m 130 #[.val (.long q1), .second, .val (.long q2), .second, .val (.long q3), .second, .val (.long q4), .second, .val (.int p5), .val (.long cq), .second, .val (.long dq), .second, .val (.ref b6), .val (.ref b8), .val (.int xy), .val (.int yx), .val (.int xx), .val (.int (0 : Int32)), .unset, .unset, .unset] [])) _
  refine XS.iconst X0.here hx rfl (hb hby at_130) ?_
  show Steps p.tables e below (T.setTop (mkF m 131 #[.val (.long q1), .second, .val (.long q2), .second, .val (.long q3), .second, .val (.long q4), .second, .val (.int p5), .val (.long cq), .second, .val (.long dq), .second, .val (.ref b6), .val (.ref b8), .val (.int xy), .val (.int yx), .val (.int xx), .val (.int (0 : Int32)), .unset, .unset, .unset] [(.int (1 : Int32))])) _
  refine XS.goto X0.here hx rfl (pc0 := 131) (pc' := 135) rfl (hb hby at_131) (by decide) (by decide) ?_
  show Steps p.tables e below (T.setTop (mkF m 135 #[.val (.long q1), .second, .val (.long q2), .second, .val (.long q3), .second, .val (.long q4), .second, .val (.int p5), .val (.long cq), .second, .val (.long dq), .second, .val (.ref b6), .val (.ref b8), .val (.int xy), .val (.int yx), .val (.int xx), .val (.int (0 : Int32)), .unset, .unset, .unset] [(.int (1 : Int32))])) _
  refine XS.istore X0.here hx rfl (hb hby at_135) rfl (l' := #[.val (.long q1), .second, .val (.long q2), .second, .val (.long q3), .second, .val (.long q4), .second, .val (.int p5), .val (.long cq), .second, .val (.long dq), .second, .val (.ref b6), .val (.ref b8), .val (.int xy), .val (.int yx), .val (.int xx), .val (.int (0 : Int32)), .val (.int (1 : Int32)), .unset, .unset]) rfl ?_
  show Steps p.tables e below (T.setTop (mkF m 137 #[.val (.long q1), .second, .val (.long q2), .second, .val (.long q3), .second, .val (.long q4), .second, .val (.int p5), .val (.long cq), .second, .val (.long dq), .second, .val (.ref b6), .val (.ref b8), .val (.int xy), .val (.int yx), .val (.int xx), .val (.int (0 : Int32)), .val (.int (1 : Int32)), .unset, .unset] [])) _
  refine XS.lloadN X0.here hx rfl (hb hby at_137) rfl ?_
  show Steps p.tables e below (T.setTop (mkF m 138 #[.val (.long q1), .second, .val (.long q2), .second, .val (.long q3), .second, .val (.long q4), .second, .val (.int p5), .val (.long cq), .second, .val (.long dq), .second, .val (.ref b6), .val (.ref b8), .val (.int xy), .val (.int yx), .val (.int xx), .val (.int (0 : Int32)), .val (.int (1 : Int32)), .unset, .unset] [(.long q1)])) _
  refine XS.lload X0.here hx rfl (hb hby at_138) rfl ?_
  show Steps p.tables e below (T.setTop (mkF m 140 #[.val (.long q1), .second, .val (.long q2), .second, .val (.long q3), .second, .val (.long q4), .second, .val (.int p5), .val (.long cq), .second, .val (.long dq), .second, .val (.ref b6), .val (.ref b8), .val (.int xy), .val (.int yx), .val (.int xx), .val (.int (0 : Int32)), .val (.int (1 : Int32)), .unset, .unset] [(.long cq), (.long q1)])) _
  refine XS.lcmp X0.here hx rfl (hb hby at_140) rfl ?_
  show Steps p.tables e below (T.setTop (mkF m 141 #[.val (.long q1), .second, .val (.long q2), .second, .val (.long q3), .second, .val (.long q4), .second, .val (.int p5), .val (.long cq), .second, .val (.long dq), .second, .val (.ref b6), .val (.ref b8), .val (.int xy), .val (.int yx), .val (.int xx), .val (.int (0 : Int32)), .val (.int (1 : Int32)), .unset, .unset] [(.int (lcmpW q1 cq))])) _
  refine XS.ifNo X0.here hx rfl (hb hby at_141) rfl ((if0 _ _).trans (teq hc141).2) ?_
  show Steps p.tables e below (T.setTop (mkF m 144 #[.val (.long q1), .second, .val (.long q2), .second, .val (.long q3), .second, .val (.long q4), .second, .val (.int p5), .val (.long cq), .second, .val (.long dq), .second, .val (.ref b6), .val (.ref b8), .val (.int xy), .val (.int yx), .val (.int xx), .val (.int (0 : Int32)), .val (.int (1 : Int32)), .unset, .unset] [])) _
  refine XS.lloadN X0.here hx rfl (hb hby at_144) rfl ?_
  show Steps p.tables e below (T.setTop (mkF m 145 #[.val (.long q1), .second, .val (.long q2), .second, .val (.long q3), .second, .val (.long q4), .second, .val (.int p5), .val (.long cq), .second, .val (.long dq), .second, .val (.ref b6), .val (.ref b8), .val (.int xy), .val (.int yx), .val (.int xx), .val (.int (0 : Int32)), .val (.int (1 : Int32)), .unset, .unset] [(.long q2)])) _
  refine XS.lload X0.here hx rfl (hb hby at_145) rfl ?_
  show Steps p.tables e below (T.setTop (mkF m 147 #[.val (.long q1), .second, .val (.long q2), .second, .val (.long q3), .second, .val (.long q4), .second, .val (.int p5), .val (.long cq), .second, .val (.long dq), .second, .val (.ref b6), .val (.ref b8), .val (.int xy), .val (.int yx), .val (.int xx), .val (.int (0 : Int32)), .val (.int (1 : Int32)), .unset, .unset] [(.long dq), (.long q2)])) _
  refine XS.lcmp X0.here hx rfl (hb hby at_147) rfl ?_
  show Steps p.tables e below (T.setTop (mkF m 148 #[.val (.long q1), .second, .val (.long q2), .second, .val (.long q3), .second, .val (.long q4), .second, .val (.int p5), .val (.long cq), .second, .val (.long dq), .second, .val (.ref b6), .val (.ref b8), .val (.int xy), .val (.int yx), .val (.int xx), .val (.int (0 : Int32)), .val (.int (1 : Int32)), .unset, .unset] [(.int (lcmpW q2 dq))])) _
  refine XS.ifYes X0.here hx rfl (pc0 := 148) (pc' := 155) rfl (hb hby at_148) rfl ((if0 _ _).trans (feq hc148).2) (by decide) (by decide) ?_
  show Steps p.tables e below (T.setTop (mkF m 155 #[.val (.long q1), .second, .val (.long q2), .second, .val (.long q3), .second, .val (.long q4), .second, .val (.int p5), .val (.long cq), .second, .val (.long dq), .second, .val (.ref b6), .val (.ref b8), .val (.int xy), .val (.int yx), .val (.int xx), .val (.int (0 : Int32)), .val (.int (1 : Int32)), .unset, .unset] [])) _
  refine XS.iconst X0.here hx rfl (hb hby at_155) ?_
  show Steps p.tables e below (T.setTop (mkF m 156 #[.val (.long q1), .second, .val (.long q2), .second, .val (.long q3), .second, .val (.long q4), .second, .val (.int p5), .val (.long cq), .second, .val (.long dq), .second, .val (.ref b6), .val (.ref b8), .val (.int xy), .val (.int yx), .val (.int xx), .val (.int (0 : Int32)), .val (.int (1 : Int32)), .unset, .unset] [(.int (0 : Int32))])) _
  refine XS.istore X0.here hx rfl (hb hby at_156) rfl (l' := #[.val (.long q1), .second, .val (.long q2), .second, .val (.long q3), .second, .val (.long q4), .second, .val (.int p5), .val (.long cq), .second, .val (.long dq), .second, .val (.ref b6), .val (.ref b8), .val (.int xy), .val (.int yx), .val (.int xx), .val (.int (0 : Int32)), .val (.int (1 : Int32)), .val (.int (0 : Int32)), .unset]) rfl ?_
  show Steps p.tables e below (T.setTop (mkF m 158 #[.val (.long q1), .second, .val (.long q2), .second, .val (.long q3), .second, .val (.long q4), .second, .val (.int p5), .val (.long cq), .second, .val (.long dq), .second, .val (.ref b6), .val (.ref b8), .val (.int xy), .val (.int yx), .val (.int xx), .val (.int (0 : Int32)), .val (.int (1 : Int32)), .val (.int (0 : Int32)), .unset] [])) _
  refine XS.iload X0.here hx rfl (hb hby at_158) rfl ?_
  show Steps p.tables e below (T.setTop (mkF m 160 #[.val (.long q1), .second, .val (.long q2), .second, .val (.long q3), .second, .val (.long q4), .second, .val (.int p5), .val (.long cq), .second, .val (.long dq), .second, .val (.ref b6), .val (.ref b8), .val (.int xy), .val (.int yx), .val (.int xx), .val (.int (0 : Int32)), .val (.int (1 : Int32)), .val (.int (0 : Int32)), .unset] [(.int (0 : Int32))])) _
  refine XS.ifYes X0.here hx rfl (pc0 := 160) (pc' := 181) rfl (hb hby at_160) rfl ((if0 _ _).trans (teq (rfl : (0 : Int32) = (0 : Int32))).1) (by decide) (by decide) ?_
  show Steps p.tables e below (T.setTop (mkF m 181 #[.val (.long q1), .second, .val (.long q2), .second, .val (.long q3), .second, .val (.long q4), .second, .val (.int p5), .val (.long cq), .second, .val (.long dq), .second, .val (.ref b6), .val (.ref b8), .val (.int xy), .val (.int yx), .val (.int xx), .val (.int (0 : Int32)), .val (.int (1 : Int32)), .val (.int (0 : Int32)), .unset] [])) _
  refine XS.iload X0.here hx rfl (hb hby at_181) rfl ?_
  show Steps p.tables e below (T.setTop (mkF m 183 #[.val (.long q1), .second, .val (.long q2), .second, .val (.long q3), .second, .val (.long q4), .second, .val (.int p5), .val (.long cq), .second, .val (.long dq), .second, .val (.ref b6), .val (.ref b8), .val (.int xy), .val (.int yx), .val (.int xx), .val (.int (0 : Int32)), .val (.int (1 : Int32)), .val (.int (0 : Int32)), .unset] [(.int xy)])) _
  refine XS.iload X0.here hx rfl (hb hby at_183) rfl ?_
  show Steps p.tables e below (T.setTop (mkF m 185 #[.val (.long q1), .second, .val (.long q2), .second, .val (.long q3), .second, .val (.long q4), .second, .val (.int p5), .val (.long cq), .second, .val (.long dq), .second, .val (.ref b6), .val (.ref b8), .val (.int xy), .val (.int yx), .val (.int xx), .val (.int (0 : Int32)), .val (.int (1 : Int32)), .val (.int (0 : Int32)), .unset] [(.int yx), (.int xy)])) _
  refine XS.icmpNo X0.here hx rfl (hb hby at_185) rfl (feq hc185).1 ?_
  show Steps p.tables e below (T.setTop (mkF m 188 #[.val (.long q1), .second, .val (.long q2), .second, .val (.long q3), .second, .val (.long q4), .second, .val (.int p5), .val (.long cq), .second, .val (.long dq), .second, .val (.ref b6), .val (.ref b8), .val (.int xy), .val (.int yx), .val (.int xx), .val (.int (0 : Int32)), .val (.int (1 : Int32)), .val (.int (0 : Int32)), .unset] [])) _
  refine XS.iconst X0.here hx rfl (hb hby at_188) ?_
  show Steps p.tables e below (T.setTop (mkF m 189 #[.val (.long q1), .second, .val (.long q2), .second, .val (.long q3), .second, .val (.long q4), .second, .val (.int p5), .val (.long cq), .second, .val (.long dq), .second, .val (.ref b6), .val (.ref b8), .val (.int xy), .val (.int yx), .val (.int xx), .val (.int (0 : Int32)), .val (.int (1 : Int32)), .val (.int (0 : Int32)), .unset] [(.int (1 : Int32))])) _
  refine XS.goto X0.here hx rfl (pc0 := 189) (pc' := 193) rfl (hb hby at_189) (by decide) (by decide) ?_
  show Steps p.tables e below (T.setTop (mkF m 193 #[.val (.long q1), .second, .val (.long q2), .second, .val (.long q3), .second, .val (.long q4), .second, .val (.int p5), .val (.long cq), .second, .val (.long dq), .second, .val (.ref b6), .val (.ref b8), .val (.int xy), .val (.int yx), .val (.int xx), .val (.int (0 : Int32)), .val (.int (1 : Int32)), .val (.int (0 : Int32)), .unset] [(.int (1 : Int32))])) _
  refine XS.istore X0.here hx rfl (hb hby at_193) rfl (l' := #[.val (.long q1), .second, .val (.long q2), .second, .val (.long q3), .second, .val (.long q4), .second, .val (.int p5), .val (.long cq), .second, .val (.long dq), .second, .val (.ref b6), .val (.ref b8), .val (.int xy), .val (.int yx), .val (.int xx), .val (.int (0 : Int32)), .val (.int (1 : Int32)), .val (.int (0 : Int32)), .val (.int (1 : Int32))]) rfl ?_
  show Steps p.tables e below (T.setTop (mkF m 195 #[.val (.long q1), .second, .val (.long q2), .second, .val (.long q3), .second, .val (.long q4), .second, .val (.int p5), .val (.long cq), .second, .val (.long dq), .second, .val (.ref b6), .val (.ref b8), .val (.int xy), .val (.int yx), .val (.int xx), .val (.int (0 : Int32)), .val (.int (1 : Int32)), .val (.int (0 : Int32)), .val (.int (1 : Int32))] [])) _
  refine XS.iload X0.here hx rfl (hb hby at_195) rfl ?_
  show Steps p.tables e below (T.setTop (mkF m 197 #[.val (.long q1), .second, .val (.long q2), .second, .val (.long q3), .second, .val (.long q4), .second, .val (.int p5), .val (.long cq), .second, .val (.long dq), .second, .val (.ref b6), .val (.ref b8), .val (.int xy), .val (.int yx), .val (.int xx), .val (.int (0 : Int32)), .val (.int (1 : Int32)), .val (.int (0 : Int32)), .val (.int (1 : Int32))] [(.int xy)])) _
  refine XS.iload X0.here hx rfl (hb hby at_197) rfl ?_
  show Steps p.tables e below (T.setTop (mkF m 199 #[.val (.long q1), .second, .val (.long q2), .second, .val (.long q3), .second, .val (.long q4), .second, .val (.int p5), .val (.long cq), .second, .val (.long dq), .second, .val (.ref b6), .val (.ref b8), .val (.int xy), .val (.int yx), .val (.int xx), .val (.int (0 : Int32)), .val (.int (1 : Int32)), .val (.int (0 : Int32)), .val (.int (1 : Int32))] [(.int (0 : Int32)), (.int xy)])) _
  refine XS.icmpNo X0.here hx rfl (hb hby at_199) rfl (teq hc199).2 ?_
  show Steps p.tables e below (T.setTop (mkF m 202 #[.val (.long q1), .second, .val (.long q2), .second, .val (.long q3), .second, .val (.long q4), .second, .val (.int p5), .val (.long cq), .second, .val (.long dq), .second, .val (.ref b6), .val (.ref b8), .val (.int xy), .val (.int yx), .val (.int xx), .val (.int (0 : Int32)), .val (.int (1 : Int32)), .val (.int (0 : Int32)), .val (.int (1 : Int32))] [])) _
  refine XS.iload X0.here hx rfl (hb hby at_202) rfl ?_
  show Steps p.tables e below (T.setTop (mkF m 204 #[.val (.long q1), .second, .val (.long q2), .second, .val (.long q3), .second, .val (.long q4), .second, .val (.int p5), .val (.long cq), .second, .val (.long dq), .second, .val (.ref b6), .val (.ref b8), .val (.int xy), .val (.int yx), .val (.int xx), .val (.int (0 : Int32)), .val (.int (1 : Int32)), .val (.int (0 : Int32)), .val (.int (1 : Int32))] [(.int yx)])) _
  refine XS.iload X0.here hx rfl (hb hby at_204) rfl ?_
  show Steps p.tables e below (T.setTop (mkF m 206 #[.val (.long q1), .second, .val (.long q2), .second, .val (.long q3), .second, .val (.long q4), .second, .val (.int p5), .val (.long cq), .second, .val (.long dq), .second, .val (.ref b6), .val (.ref b8), .val (.int xy), .val (.int yx), .val (.int xx), .val (.int (0 : Int32)), .val (.int (1 : Int32)), .val (.int (0 : Int32)), .val (.int (1 : Int32))] [(.int (1 : Int32)), (.int yx)])) _
  refine XS.icmpNo X0.here hx rfl (hb hby at_206) rfl (teq hc206).2 ?_
  show Steps p.tables e below (T.setTop (mkF m 209 #[.val (.long q1), .second, .val (.long q2), .second, .val (.long q3), .second, .val (.long q4), .second, .val (.int p5), .val (.long cq), .second, .val (.long dq), .second, .val (.ref b6), .val (.ref b8), .val (.int xy), .val (.int yx), .val (.int xx), .val (.int (0 : Int32)), .val (.int (1 : Int32)), .val (.int (0 : Int32)), .val (.int (1 : Int32))] [])) _
  refine XS.iload X0.here hx rfl (hb hby at_209) rfl ?_
  show Steps p.tables e below (T.setTop (mkF m 211 #[.val (.long q1), .second, .val (.long q2), .second, .val (.long q3), .second, .val (.long q4), .second, .val (.int p5), .val (.long cq), .second, .val (.long dq), .second, .val (.ref b6), .val (.ref b8), .val (.int xy), .val (.int yx), .val (.int xx), .val (.int (0 : Int32)), .val (.int (1 : Int32)), .val (.int (0 : Int32)), .val (.int (1 : Int32))] [(.int xx)])) _
  refine XS.ifNo X0.here hx rfl (hb hby at_211) rfl ((if0 _ _).trans (teq hc211).2) ?_
  show Steps p.tables e below (T.setTop (mkF m 214 #[.val (.long q1), .second, .val (.long q2), .second, .val (.long q3), .second, .val (.long q4), .second, .val (.int p5), .val (.long cq), .second, .val (.long dq), .second, .val (.ref b6), .val (.ref b8), .val (.int xy), .val (.int yx), .val (.int xx), .val (.int (0 : Int32)), .val (.int (1 : Int32)), .val (.int (0 : Int32)), .val (.int (1 : Int32))] [])) _
  refine XS.iload X0.here hx rfl (hb hby at_214) rfl ?_
  show Steps p.tables e below (T.setTop (mkF m 216 #[.val (.long q1), .second, .val (.long q2), .second, .val (.long q3), .second, .val (.long q4), .second, .val (.int p5), .val (.long cq), .second, .val (.long dq), .second, .val (.ref b6), .val (.ref b8), .val (.int xy), .val (.int yx), .val (.int xx), .val (.int (0 : Int32)), .val (.int (1 : Int32)), .val (.int (0 : Int32)), .val (.int (1 : Int32))] [(.int (1 : Int32))])) _
  refine XS.ifNo X0.here hx rfl (hb hby at_216) rfl ((if0 _ _).trans (feq hc216).1) ?_
  show Steps p.tables e below (T.setTop (mkF m 219 #[.val (.long q1), .second, .val (.long q2), .second, .val (.long q3), .second, .val (.long q4), .second, .val (.int p5), .val (.long cq), .second, .val (.long dq), .second, .val (.ref b6), .val (.ref b8), .val (.int xy), .val (.int yx), .val (.int xx), .val (.int (0 : Int32)), .val (.int (1 : Int32)), .val (.int (0 : Int32)), .val (.int (1 : Int32))] [])) _
  refine XS.iconst X0.here hx rfl (hb hby at_219) ?_
  show Steps p.tables e below (T.setTop (mkF m 220 #[.val (.long q1), .second, .val (.long q2), .second, .val (.long q3), .second, .val (.long q4), .second, .val (.int p5), .val (.long cq), .second, .val (.long dq), .second, .val (.ref b6), .val (.ref b8), .val (.int xy), .val (.int yx), .val (.int xx), .val (.int (0 : Int32)), .val (.int (1 : Int32)), .val (.int (0 : Int32)), .val (.int (1 : Int32))] [(.int (1 : Int32))])) _
  refine XS.goto X0.here hx rfl (pc0 := 220) (pc' := 224) rfl (hb hby at_220) (by decide) (by decide) ?_
  exact k _
set_option maxRecDepth 65536 in
set_option maxHeartbeats 40000000 in
theorem own_postE {p : Program} {l : Launch} {e : Env} {R : Room} {s : State} {m : MethodId} {args : Array Value} {below : List Frame} {meth : Method} {c : Code} {T : State} {locs : List Loc} {cells slots : Nat} {target : State} (X0 : Stand p l e R s m args below meth c T locs cells slots) (hx : p.tables.exec = Jvm.exec) (hby : c.code = code) (q1 q2 q3 q4 cq dq : Int64) (p5 xy yx xx : Int32) (b6 : Addr) (b8 : Addr) (hc85 : ¬ ((0 : Int32) < (lcmpW q1 cq))) (hc92 : (lcmpW q1 cq) = (0 : Int32)) (hc99 : ¬ ((0 : Int32) < (lcmpW q2 dq))) (hc113 : ¬ ((0 : Int32) < (lcmpW cq q1))) (hc120 : (lcmpW cq q1) = (0 : Int32)) (hc127 : ¬ ((0 : Int32) < (lcmpW dq q2))) (hc141 : (lcmpW q1 cq) = (0 : Int32)) (hc148 : (lcmpW q2 dq) = (0 : Int32)) (hc160 : ¬ ((1 : Int32) = (0 : Int32))) (hc165 : xy = (0 : Int32)) (hc170 : yx = (0 : Int32)) (hc199 : xy = (0 : Int32)) (hc206 : yx = (0 : Int32)) (hc211 : xx = (0 : Int32)) (hc216 : ¬ ((1 : Int32) = (0 : Int32))) (k : ∀ Ls, Steps p.tables e below (T.setTop (mkF m 224 Ls [(.int (1 : Int32))])) target) : Steps p.tables e below (T.setTop (mkF m 81 #[.val (.long q1), .second, .val (.long q2), .second, .val (.long q3), .second, .val (.long q4), .second, .val (.int p5), .val (.long cq), .second, .val (.long dq), .second, .val (.ref b6), .val (.ref b8), .val (.int xy), .val (.int yx), .val (.int xx), .unset, .unset, .unset, .unset] [])) target := by
  show Steps p.tables e below (T.setTop (mkF m 81 #[.val (.long q1), .second, .val (.long q2), .second, .val (.long q3), .second, .val (.long q4), .second, .val (.int p5), .val (.long cq), .second, .val (.long dq), .second, .val (.ref b6), .val (.ref b8), .val (.int xy), .val (.int yx), .val (.int xx), .unset, .unset, .unset, .unset] [])) _
  refine XS.lloadN X0.here hx rfl (hb hby at_81) rfl ?_
  show Steps p.tables e below (T.setTop (mkF m 82 #[.val (.long q1), .second, .val (.long q2), .second, .val (.long q3), .second, .val (.long q4), .second, .val (.int p5), .val (.long cq), .second, .val (.long dq), .second, .val (.ref b6), .val (.ref b8), .val (.int xy), .val (.int yx), .val (.int xx), .unset, .unset, .unset, .unset] [(.long q1)])) _
  refine XS.lload X0.here hx rfl (hb hby at_82) rfl ?_
  show Steps p.tables e below (T.setTop (mkF m 84 #[.val (.long q1), .second, .val (.long q2), .second, .val (.long q3), .second, .val (.long q4), .second, .val (.int p5), .val (.long cq), .second, .val (.long dq), .second, .val (.ref b6), .val (.ref b8), .val (.int xy), .val (.int yx), .val (.int xx), .unset, .unset, .unset, .unset] [(.long cq), (.long q1)])) _
  refine XS.lcmp X0.here hx rfl (hb hby at_84) rfl ?_
  show Steps p.tables e below (T.setTop (mkF m 85 #[.val (.long q1), .second, .val (.long q2), .second, .val (.long q3), .second, .val (.long q4), .second, .val (.int p5), .val (.long cq), .second, .val (.long dq), .second, .val (.ref b6), .val (.ref b8), .val (.int xy), .val (.int yx), .val (.int xx), .unset, .unset, .unset, .unset] [(.int (lcmpW q1 cq))])) _
  refine XS.ifNo X0.here hx rfl (hb hby at_85) rfl ((if0 _ _).trans (flt hc85).2.2.1) ?_
  show Steps p.tables e below (T.setTop (mkF m 88 #[.val (.long q1), .second, .val (.long q2), .second, .val (.long q3), .second, .val (.long q4), .second, .val (.int p5), .val (.long cq), .second, .val (.long dq), .second, .val (.ref b6), .val (.ref b8), .val (.int xy), .val (.int yx), .val (.int xx), .unset, .unset, .unset, .unset] [])) _
  refine XS.lloadN X0.here hx rfl (hb hby at_88) rfl ?_
  show Steps p.tables e below (T.setTop (mkF m 89 #[.val (.long q1), .second, .val (.long q2), .second, .val (.long q3), .second, .val (.long q4), .second, .val (.int p5), .val (.long cq), .second, .val (.long dq), .second, .val (.ref b6), .val (.ref b8), .val (.int xy), .val (.int yx), .val (.int xx), .unset, .unset, .unset, .unset] [(.long q1)])) _
  refine XS.lload X0.here hx rfl (hb hby at_89) rfl ?_
  show Steps p.tables e below (T.setTop (mkF m 91 #[.val (.long q1), .second, .val (.long q2), .second, .val (.long q3), .second, .val (.long q4), .second, .val (.int p5), .val (.long cq), .second, .val (.long dq), .second, .val (.ref b6), .val (.ref b8), .val (.int xy), .val (.int yx), .val (.int xx), .unset, .unset, .unset, .unset] [(.long cq), (.long q1)])) _
  refine XS.lcmp X0.here hx rfl (hb hby at_91) rfl ?_
  show Steps p.tables e below (T.setTop (mkF m 92 #[.val (.long q1), .second, .val (.long q2), .second, .val (.long q3), .second, .val (.long q4), .second, .val (.int p5), .val (.long cq), .second, .val (.long dq), .second, .val (.ref b6), .val (.ref b8), .val (.int xy), .val (.int yx), .val (.int xx), .unset, .unset, .unset, .unset] [(.int (lcmpW q1 cq))])) _
  refine XS.ifNo X0.here hx rfl (hb hby at_92) rfl ((if0 _ _).trans (teq hc92).2) ?_
  show Steps p.tables e below (T.setTop (mkF m 95 #[.val (.long q1), .second, .val (.long q2), .second, .val (.long q3), .second, .val (.long q4), .second, .val (.int p5), .val (.long cq), .second, .val (.long dq), .second, .val (.ref b6), .val (.ref b8), .val (.int xy), .val (.int yx), .val (.int xx), .unset, .unset, .unset, .unset] [])) _
  refine XS.lloadN X0.here hx rfl (hb hby at_95) rfl ?_
  show Steps p.tables e below (T.setTop (mkF m 96 #[.val (.long q1), .second, .val (.long q2), .second, .val (.long q3), .second, .val (.long q4), .second, .val (.int p5), .val (.long cq), .second, .val (.long dq), .second, .val (.ref b6), .val (.ref b8), .val (.int xy), .val (.int yx), .val (.int xx), .unset, .unset, .unset, .unset] [(.long q2)])) _
  refine XS.lload X0.here hx rfl (hb hby at_96) rfl ?_
  show Steps p.tables e below (T.setTop (mkF m 98 #[.val (.long q1), .second, .val (.long q2), .second, .val (.long q3), .second, .val (.long q4), .second, .val (.int p5), .val (.long cq), .second, .val (.long dq), .second, .val (.ref b6), .val (.ref b8), .val (.int xy), .val (.int yx), .val (.int xx), .unset, .unset, .unset, .unset] [(.long dq), (.long q2)])) _
  refine XS.lcmp X0.here hx rfl (hb hby at_98) rfl ?_
  show Steps p.tables e below (T.setTop (mkF m 99 #[.val (.long q1), .second, .val (.long q2), .second, .val (.long q3), .second, .val (.long q4), .second, .val (.int p5), .val (.long cq), .second, .val (.long dq), .second, .val (.ref b6), .val (.ref b8), .val (.int xy), .val (.int yx), .val (.int xx), .unset, .unset, .unset, .unset] [(.int (lcmpW q2 dq))])) _
  refine XS.ifYes X0.here hx rfl (pc0 := 99) (pc' := 106) rfl (hb hby at_99) rfl ((if0 _ _).trans (flt hc99).2.2.2) (by decide) (by decide) ?_
  show Steps p.tables e below (T.setTop (mkF m 106 #[.val (.long q1), .second, .val (.long q2), .second, .val (.long q3), .second, .val (.long q4), .second, .val (.int p5), .val (.long cq), .second, .val (.long dq), .second, .val (.ref b6), .val (.ref b8), .val (.int xy), .val (.int yx), .val (.int xx), .unset, .unset, .unset, .unset] [])) _
  refine XS.iconst X0.here hx rfl (hb hby at_106) ?_
  show Steps p.tables e below (T.setTop (mkF m 107 #[.val (.long q1), .second, .val (.long q2), .second, .val (.long q3), .second, .val (.long q4), .second, .val (.int p5), .val (.long cq), .second, .val (.long dq), .second, .val (.ref b6), .val (.ref b8), .val (.int xy), .val (.int yx), .val (.int xx), .unset, .unset, .unset, .unset] [(.int (0 : Int32))])) _
  refine XS.istore X0.here hx rfl (hb hby at_107) rfl (l' := #[.val (.long q1), .second, .val (.long q2), .second, .val (.long q3), .second, .val (.long q4), .second, .val (.int p5), .val (.long cq), .second, .val (.long dq), .second, .val (.ref b6), .val (.ref b8), .val (.int xy), .val (.int yx), .val (.int xx), .val (.int (0 : Int32)), .unset, .unset, .unset]) rfl ?_
  show Steps p.tables e below (T.setTop (mkF m 109 #[.val (.long q1), .second, .val (.long q2), .second, .val (.long q3), .second, .val (.long q4), .second, .val (.int p5), .val (.long cq), .second, .val (.long dq), .second, .val (.ref b6), .val (.ref b8), .val (.int xy), .val (.int yx), .val (.int xx), .val (.int (0 : Int32)), .unset, .unset, .unset] [])) _
  refine XS.lload X0.here hx rfl (hb hby at_109) rfl ?_
  show Steps p.tables e below (T.setTop (mkF m 111 #[.val (.long q1), .second, .val (.long q2), .second, .val (.long q3), .second, .val (.long q4), .second, .val (.int p5), .val (.long cq), .second, .val (.long dq), .second, .val (.ref b6), .val (.ref b8), .val (.int xy), .val (.int yx), .val (.int xx), .val (.int (0 : Int32)), .unset, .unset, .unset] [(.long cq)])) _
  refine XS.lloadN X0.here hx rfl (hb hby at_111) rfl ?_
  show Steps p.tables e below (T.setTop (mkF m 112 #[.val (.long q1), .second, .val (.long q2), .second, .val (.long q3), .second, .val (.long q4), .second, .val (.int p5), .val (.long cq), .second, .val (.long dq), .second, .val (.ref b6), .val (.ref b8), .val (.int xy), .val (.int yx), .val (.int xx), .val (.int (0 : Int32)), .unset, .unset, .unset] [(.long q1), (.long cq)])) _
  refine XS.lcmp X0.here hx rfl (hb hby at_112) rfl ?_
  show Steps p.tables e below (T.setTop (mkF m 113 #[.val (.long q1), .second, .val (.long q2), .second, .val (.long q3), .second, .val (.long q4), .second, .val (.int p5), .val (.long cq), .second, .val (.long dq), .second, .val (.ref b6), .val (.ref b8), .val (.int xy), .val (.int yx), .val (.int xx), .val (.int (0 : Int32)), .unset, .unset, .unset] [(.int (lcmpW cq q1))])) _
  refine XS.ifNo X0.here hx rfl (hb hby at_113) rfl ((if0 _ _).trans (flt hc113).2.2.1) ?_
  show Steps p.tables e below (T.setTop (mkF m 116 #[.val (.long q1), .second, .val (.long q2), .second, .val (.long q3), .second, .val (.long q4), .second, .val (.int p5), .val (.long cq), .second, .val (.long dq), .second, .val (.ref b6), .val (.ref b8), .val (.int xy), .val (.int yx), .val (.int xx), .val (.int (0 : Int32)), .unset, .unset, .unset] [])) _
  refine XS.lload X0.here hx rfl (hb hby at_116) rfl ?_
  show Steps p.tables e below (T.setTop (mkF m 118 #[.val (.long q1), .second, .val (.long q2), .second, .val (.long q3), .second, .val (.long q4), .second, .val (.int p5), .val (.long cq), .second, .val (.long dq), .second, .val (.ref b6), .val (.ref b8), .val (.int xy), .val (.int yx), .val (.int xx), .val (.int (0 : Int32)), .unset, .unset, .unset] [(.long cq)])) _
  refine XS.lloadN X0.here hx rfl (hb hby at_118) rfl ?_
  show Steps p.tables e below (T.setTop (mkF m 119 #[.val (.long q1), .second, .val (.long q2), .second, .val (.long q3), .second, .val (.long q4), .second, .val (.int p5), .val (.long cq), .second, .val (.long dq), .second, .val (.ref b6), .val (.ref b8), .val (.int xy), .val (.int yx), .val (.int xx), .val (.int (0 : Int32)), .unset, .unset, .unset] [(.long q1), (.long cq)])) _
  refine XS.lcmp X0.here hx rfl (hb hby at_119) rfl ?_
  show Steps p.tables e below (T.setTop (mkF m 120 #[.val (.long q1), .second, .val (.long q2), .second, .val (.long q3), .second, .val (.long q4), .second, .val (.int p5), .val (.long cq), .second, .val (.long dq), .second, .val (.ref b6), .val (.ref b8), .val (.int xy), .val (.int yx), .val (.int xx), .val (.int (0 : Int32)), .unset, .unset, .unset] [(.int (lcmpW cq q1))])) _
  refine XS.ifNo X0.here hx rfl (hb hby at_120) rfl ((if0 _ _).trans (teq hc120).2) ?_
  show Steps p.tables e below (T.setTop (mkF m 123 #[.val (.long q1), .second, .val (.long q2), .second, .val (.long q3), .second, .val (.long q4), .second, .val (.int p5), .val (.long cq), .second, .val (.long dq), .second, .val (.ref b6), .val (.ref b8), .val (.int xy), .val (.int yx), .val (.int xx), .val (.int (0 : Int32)), .unset, .unset, .unset] [])) _
  refine XS.lload X0.here hx rfl (hb hby at_123) rfl ?_
  show Steps p.tables e below (T.setTop (mkF m 125 #[.val (.long q1), .second, .val (.long q2), .second, .val (.long q3), .second, .val (.long q4), .second, .val (.int p5), .val (.long cq), .second, .val (.long dq), .second, .val (.ref b6), .val (.ref b8), .val (.int xy), .val (.int yx), .val (.int xx), .val (.int (0 : Int32)), .unset, .unset, .unset] [(.long dq)])) _
  refine XS.lloadN X0.here hx rfl (hb hby at_125) rfl ?_
  show Steps p.tables e below (T.setTop (mkF m 126 #[.val (.long q1), .second, .val (.long q2), .second, .val (.long q3), .second, .val (.long q4), .second, .val (.int p5), .val (.long cq), .second, .val (.long dq), .second, .val (.ref b6), .val (.ref b8), .val (.int xy), .val (.int yx), .val (.int xx), .val (.int (0 : Int32)), .unset, .unset, .unset] [(.long q2), (.long dq)])) _
  refine XS.lcmp X0.here hx rfl (hb hby at_126) rfl ?_
  show Steps p.tables e below (T.setTop (mkF m 127 #[.val (.long q1), .second, .val (.long q2), .second, .val (.long q3), .second, .val (.long q4), .second, .val (.int p5), .val (.long cq), .second, .val (.long dq), .second, .val (.ref b6), .val (.ref b8), .val (.int xy), .val (.int yx), .val (.int xx), .val (.int (0 : Int32)), .unset, .unset, .unset] [(.int (lcmpW dq q2))])) _
  refine XS.ifYes X0.here hx rfl (pc0 := 127) (pc' := 134) rfl (hb hby at_127) rfl ((if0 _ _).trans (flt hc127).2.2.2) (by decide) (by decide) ?_
  show Steps p.tables e below (T.setTop (mkF m 134 #[.val (.long q1), .second, .val (.long q2), .second, .val (.long q3), .second, .val (.long q4), .second, .val (.int p5), .val (.long cq), .second, .val (.long dq), .second, .val (.ref b6), .val (.ref b8), .val (.int xy), .val (.int yx), .val (.int xx), .val (.int (0 : Int32)), .unset, .unset, .unset] [])) _
  refine XS.iconst X0.here hx rfl (hb hby at_134) ?_
  show Steps p.tables e below (T.setTop (mkF m 135 #[.val (.long q1), .second, .val (.long q2), .second, .val (.long q3), .second, .val (.long q4), .second, .val (.int p5), .val (.long cq), .second, .val (.long dq), .second, .val (.ref b6), .val (.ref b8), .val (.int xy), .val (.int yx), .val (.int xx), .val (.int (0 : Int32)), .unset, .unset, .unset] [(.int (0 : Int32))])) _
  refine XS.istore X0.here hx rfl (hb hby at_135) rfl (l' := #[.val (.long q1), .second, .val (.long q2), .second, .val (.long q3), .second, .val (.long q4), .second, .val (.int p5), .val (.long cq), .second, .val (.long dq), .second, .val (.ref b6), .val (.ref b8), .val (.int xy), .val (.int yx), .val (.int xx), .val (.int (0 : Int32)), .val (.int (0 : Int32)), .unset, .unset]) rfl ?_
  show Steps p.tables e below (T.setTop (mkF m 137 #[.val (.long q1), .second, .val (.long q2), .second, .val (.long q3), .second, .val (.long q4), .second, .val (.int p5), .val (.long cq), .second, .val (.long dq), .second, .val (.ref b6), .val (.ref b8), .val (.int xy), .val (.int yx), .val (.int xx), .val (.int (0 : Int32)), .val (.int (0 : Int32)), .unset, .unset] [])) _
  refine XS.lloadN X0.here hx rfl (hb hby at_137) rfl ?_
  show Steps p.tables e below (T.setTop (mkF m 138 #[.val (.long q1), .second, .val (.long q2), .second, .val (.long q3), .second, .val (.long q4), .second, .val (.int p5), .val (.long cq), .second, .val (.long dq), .second, .val (.ref b6), .val (.ref b8), .val (.int xy), .val (.int yx), .val (.int xx), .val (.int (0 : Int32)), .val (.int (0 : Int32)), .unset, .unset] [(.long q1)])) _
  refine XS.lload X0.here hx rfl (hb hby at_138) rfl ?_
  show Steps p.tables e below (T.setTop (mkF m 140 #[.val (.long q1), .second, .val (.long q2), .second, .val (.long q3), .second, .val (.long q4), .second, .val (.int p5), .val (.long cq), .second, .val (.long dq), .second, .val (.ref b6), .val (.ref b8), .val (.int xy), .val (.int yx), .val (.int xx), .val (.int (0 : Int32)), .val (.int (0 : Int32)), .unset, .unset] [(.long cq), (.long q1)])) _
  refine XS.lcmp X0.here hx rfl (hb hby at_140) rfl ?_
  show Steps p.tables e below (T.setTop (mkF m 141 #[.val (.long q1), .second, .val (.long q2), .second, .val (.long q3), .second, .val (.long q4), .second, .val (.int p5), .val (.long cq), .second, .val (.long dq), .second, .val (.ref b6), .val (.ref b8), .val (.int xy), .val (.int yx), .val (.int xx), .val (.int (0 : Int32)), .val (.int (0 : Int32)), .unset, .unset] [(.int (lcmpW q1 cq))])) _
  refine XS.ifNo X0.here hx rfl (hb hby at_141) rfl ((if0 _ _).trans (teq hc141).2) ?_
  show Steps p.tables e below (T.setTop (mkF m 144 #[.val (.long q1), .second, .val (.long q2), .second, .val (.long q3), .second, .val (.long q4), .second, .val (.int p5), .val (.long cq), .second, .val (.long dq), .second, .val (.ref b6), .val (.ref b8), .val (.int xy), .val (.int yx), .val (.int xx), .val (.int (0 : Int32)), .val (.int (0 : Int32)), .unset, .unset] [])) _
  refine XS.lloadN X0.here hx rfl (hb hby at_144) rfl ?_
  show Steps p.tables e below (T.setTop (mkF m 145 #[.val (.long q1), .second, .val (.long q2), .second, .val (.long q3), .second, .val (.long q4), .second, .val (.int p5), .val (.long cq), .second, .val (.long dq), .second, .val (.ref b6), .val (.ref b8), .val (.int xy), .val (.int yx), .val (.int xx), .val (.int (0 : Int32)), .val (.int (0 : Int32)), .unset, .unset] [(.long q2)])) _
  refine XS.lload X0.here hx rfl (hb hby at_145) rfl ?_
  show Steps p.tables e below (T.setTop (mkF m 147 #[.val (.long q1), .second, .val (.long q2), .second, .val (.long q3), .second, .val (.long q4), .second, .val (.int p5), .val (.long cq), .second, .val (.long dq), .second, .val (.ref b6), .val (.ref b8), .val (.int xy), .val (.int yx), .val (.int xx), .val (.int (0 : Int32)), .val (.int (0 : Int32)), .unset, .unset] [(.long dq), (.long q2)])) _
  refine XS.lcmp X0.here hx rfl (hb hby at_147) rfl ?_
  show Steps p.tables e below (T.setTop (mkF m 148 #[.val (.long q1), .second, .val (.long q2), .second, .val (.long q3), .second, .val (.long q4), .second, .val (.int p5), .val (.long cq), .second, .val (.long dq), .second, .val (.ref b6), .val (.ref b8), .val (.int xy), .val (.int yx), .val (.int xx), .val (.int (0 : Int32)), .val (.int (0 : Int32)), .unset, .unset] [(.int (lcmpW q2 dq))])) _
  refine XS.ifNo X0.here hx rfl (hb hby at_148) rfl ((if0 _ _).trans (teq hc148).2) ?_
  show Steps p.tables e below (T.setTop (mkF m 151 #[.val (.long q1), .second, .val (.long q2), .second, .val (.long q3), .second, .val (.long q4), .second, .val (.int p5), .val (.long cq), .second, .val (.long dq), .second, .val (.ref b6), .val (.ref b8), .val (.int xy), .val (.int yx), .val (.int xx), .val (.int (0 : Int32)), .val (.int (0 : Int32)), .unset, .unset] [])) _
  refine XS.iconst X0.here hx rfl (hb hby at_151) ?_
  show Steps p.tables e below (T.setTop (mkF m 152 #[.val (.long q1), .second, .val (.long q2), .second, .val (.long q3), .second, .val (.long q4), .second, .val (.int p5), .val (.long cq), .second, .val (.long dq), .second, .val (.ref b6), .val (.ref b8), .val (.int xy), .val (.int yx), .val (.int xx), .val (.int (0 : Int32)), .val (.int (0 : Int32)), .unset, .unset] [(.int (1 : Int32))])) _
  refine XS.goto X0.here hx rfl (pc0 := 152) (pc' := 156) rfl (hb hby at_152) (by decide) (by decide) ?_
  show Steps p.tables e below (T.setTop (mkF m 156 #[.val (.long q1), .second, .val (.long q2), .second, .val (.long q3), .second, .val (.long q4), .second, .val (.int p5), .val (.long cq), .second, .val (.long dq), .second, .val (.ref b6), .val (.ref b8), .val (.int xy), .val (.int yx), .val (.int xx), .val (.int (0 : Int32)), .val (.int (0 : Int32)), .unset, .unset] [(.int (1 : Int32))])) _
  refine XS.istore X0.here hx rfl (hb hby at_156) rfl (l' := #[.val (.long q1), .second, .val (.long q2), .second, .val (.long q3), .second, .val (.long q4), .second, .val (.int p5), .val (.long cq), .second, .val (.long dq), .second, .val (.ref b6), .val (.ref b8), .val (.int xy), .val (.int yx), .val (.int xx), .val (.int (0 : Int32)), .val (.int (0 : Int32)), .val (.int (1 : Int32)), .unset]) rfl ?_
  show Steps p.tables e below (T.setTop (mkF m 158 #[.val (.long q1), .second, .val (.long q2), .second, .val (.long q3), .second, .val (.long q4), .second, .val (.int p5), .val (.long cq), .second, .val (.long dq), .second, .val (.ref b6), .val (.ref b8), .val (.int xy), .val (.int yx), .val (.int xx), .val (.int (0 : Int32)), .val (.int (0 : Int32)), .val (.int (1 : Int32)), .unset] [])) _
  refine XS.iload X0.here hx rfl (hb hby at_158) rfl ?_
  show Steps p.tables e below (T.setTop (mkF m 160 #[.val (.long q1), .second, .val (.long q2), .second, .val (.long q3), .second, .val (.long q4), .second, .val (.int p5), .val (.long cq), .second, .val (.long dq), .second, .val (.ref b6), .val (.ref b8), .val (.int xy), .val (.int yx), .val (.int xx), .val (.int (0 : Int32)), .val (.int (0 : Int32)), .val (.int (1 : Int32)), .unset] [(.int (1 : Int32))])) _
  refine XS.ifNo X0.here hx rfl (hb hby at_160) rfl ((if0 _ _).trans (feq hc160).1) ?_
  show Steps p.tables e below (T.setTop (mkF m 163 #[.val (.long q1), .second, .val (.long q2), .second, .val (.long q3), .second, .val (.long q4), .second, .val (.int p5), .val (.long cq), .second, .val (.long dq), .second, .val (.ref b6), .val (.ref b8), .val (.int xy), .val (.int yx), .val (.int xx), .val (.int (0 : Int32)), .val (.int (0 : Int32)), .val (.int (1 : Int32)), .unset] [])) _
  refine XS.iload X0.here hx rfl (hb hby at_163) rfl ?_
  show Steps p.tables e below (T.setTop (mkF m 165 #[.val (.long q1), .second, .val (.long q2), .second, .val (.long q3), .second, .val (.long q4), .second, .val (.int p5), .val (.long cq), .second, .val (.long dq), .second, .val (.ref b6), .val (.ref b8), .val (.int xy), .val (.int yx), .val (.int xx), .val (.int (0 : Int32)), .val (.int (0 : Int32)), .val (.int (1 : Int32)), .unset] [(.int xy)])) _
  refine XS.ifNo X0.here hx rfl (hb hby at_165) rfl ((if0 _ _).trans (teq hc165).2) ?_
  show Steps p.tables e below (T.setTop (mkF m 168 #[.val (.long q1), .second, .val (.long q2), .second, .val (.long q3), .second, .val (.long q4), .second, .val (.int p5), .val (.long cq), .second, .val (.long dq), .second, .val (.ref b6), .val (.ref b8), .val (.int xy), .val (.int yx), .val (.int xx), .val (.int (0 : Int32)), .val (.int (0 : Int32)), .val (.int (1 : Int32)), .unset] [])) _
  refine XS.iload X0.here hx rfl (hb hby at_168) rfl ?_
  show Steps p.tables e below (T.setTop (mkF m 170 #[.val (.long q1), .second, .val (.long q2), .second, .val (.long q3), .second, .val (.long q4), .second, .val (.int p5), .val (.long cq), .second, .val (.long dq), .second, .val (.ref b6), .val (.ref b8), .val (.int xy), .val (.int yx), .val (.int xx), .val (.int (0 : Int32)), .val (.int (0 : Int32)), .val (.int (1 : Int32)), .unset] [(.int yx)])) _
  refine XS.ifNo X0.here hx rfl (hb hby at_170) rfl ((if0 _ _).trans (teq hc170).2) ?_
  show Steps p.tables e below (T.setTop (mkF m 173 #[.val (.long q1), .second, .val (.long q2), .second, .val (.long q3), .second, .val (.long q4), .second, .val (.int p5), .val (.long cq), .second, .val (.long dq), .second, .val (.ref b6), .val (.ref b8), .val (.int xy), .val (.int yx), .val (.int xx), .val (.int (0 : Int32)), .val (.int (0 : Int32)), .val (.int (1 : Int32)), .unset] [])) _
  refine XS.iconst X0.here hx rfl (hb hby at_173) ?_
  show Steps p.tables e below (T.setTop (mkF m 174 #[.val (.long q1), .second, .val (.long q2), .second, .val (.long q3), .second, .val (.long q4), .second, .val (.int p5), .val (.long cq), .second, .val (.long dq), .second, .val (.ref b6), .val (.ref b8), .val (.int xy), .val (.int yx), .val (.int xx), .val (.int (0 : Int32)), .val (.int (0 : Int32)), .val (.int (1 : Int32)), .unset] [(.int (1 : Int32))])) _
  refine XS.goto X0.here hx rfl (pc0 := 174) (pc' := 193) rfl (hb hby at_174) (by decide) (by decide) ?_
  show Steps p.tables e below (T.setTop (mkF m 193 #[.val (.long q1), .second, .val (.long q2), .second, .val (.long q3), .second, .val (.long q4), .second, .val (.int p5), .val (.long cq), .second, .val (.long dq), .second, .val (.ref b6), .val (.ref b8), .val (.int xy), .val (.int yx), .val (.int xx), .val (.int (0 : Int32)), .val (.int (0 : Int32)), .val (.int (1 : Int32)), .unset] [(.int (1 : Int32))])) _
  refine XS.istore X0.here hx rfl (hb hby at_193) rfl (l' := #[.val (.long q1), .second, .val (.long q2), .second, .val (.long q3), .second, .val (.long q4), .second, .val (.int p5), .val (.long cq), .second, .val (.long dq), .second, .val (.ref b6), .val (.ref b8), .val (.int xy), .val (.int yx), .val (.int xx), .val (.int (0 : Int32)), .val (.int (0 : Int32)), .val (.int (1 : Int32)), .val (.int (1 : Int32))]) rfl ?_
  show Steps p.tables e below (T.setTop (mkF m 195 #[.val (.long q1), .second, .val (.long q2), .second, .val (.long q3), .second, .val (.long q4), .second, .val (.int p5), .val (.long cq), .second, .val (.long dq), .second, .val (.ref b6), .val (.ref b8), .val (.int xy), .val (.int yx), .val (.int xx), .val (.int (0 : Int32)), .val (.int (0 : Int32)), .val (.int (1 : Int32)), .val (.int (1 : Int32))] [])) _
  refine XS.iload X0.here hx rfl (hb hby at_195) rfl ?_
  show Steps p.tables e below (T.setTop (mkF m 197 #[.val (.long q1), .second, .val (.long q2), .second, .val (.long q3), .second, .val (.long q4), .second, .val (.int p5), .val (.long cq), .second, .val (.long dq), .second, .val (.ref b6), .val (.ref b8), .val (.int xy), .val (.int yx), .val (.int xx), .val (.int (0 : Int32)), .val (.int (0 : Int32)), .val (.int (1 : Int32)), .val (.int (1 : Int32))] [(.int xy)])) _
  refine XS.iload X0.here hx rfl (hb hby at_197) rfl ?_
  show Steps p.tables e below (T.setTop (mkF m 199 #[.val (.long q1), .second, .val (.long q2), .second, .val (.long q3), .second, .val (.long q4), .second, .val (.int p5), .val (.long cq), .second, .val (.long dq), .second, .val (.ref b6), .val (.ref b8), .val (.int xy), .val (.int yx), .val (.int xx), .val (.int (0 : Int32)), .val (.int (0 : Int32)), .val (.int (1 : Int32)), .val (.int (1 : Int32))] [(.int (0 : Int32)), (.int xy)])) _
  refine XS.icmpNo X0.here hx rfl (hb hby at_199) rfl (teq hc199).2 ?_
  show Steps p.tables e below (T.setTop (mkF m 202 #[.val (.long q1), .second, .val (.long q2), .second, .val (.long q3), .second, .val (.long q4), .second, .val (.int p5), .val (.long cq), .second, .val (.long dq), .second, .val (.ref b6), .val (.ref b8), .val (.int xy), .val (.int yx), .val (.int xx), .val (.int (0 : Int32)), .val (.int (0 : Int32)), .val (.int (1 : Int32)), .val (.int (1 : Int32))] [])) _
  refine XS.iload X0.here hx rfl (hb hby at_202) rfl ?_
  show Steps p.tables e below (T.setTop (mkF m 204 #[.val (.long q1), .second, .val (.long q2), .second, .val (.long q3), .second, .val (.long q4), .second, .val (.int p5), .val (.long cq), .second, .val (.long dq), .second, .val (.ref b6), .val (.ref b8), .val (.int xy), .val (.int yx), .val (.int xx), .val (.int (0 : Int32)), .val (.int (0 : Int32)), .val (.int (1 : Int32)), .val (.int (1 : Int32))] [(.int yx)])) _
  refine XS.iload X0.here hx rfl (hb hby at_204) rfl ?_
  show Steps p.tables e below (T.setTop (mkF m 206 #[.val (.long q1), .second, .val (.long q2), .second, .val (.long q3), .second, .val (.long q4), .second, .val (.int p5), .val (.long cq), .second, .val (.long dq), .second, .val (.ref b6), .val (.ref b8), .val (.int xy), .val (.int yx), .val (.int xx), .val (.int (0 : Int32)), .val (.int (0 : Int32)), .val (.int (1 : Int32)), .val (.int (1 : Int32))] [(.int (0 : Int32)), (.int yx)])) _
  refine XS.icmpNo X0.here hx rfl (hb hby at_206) rfl (teq hc206).2 ?_
  show Steps p.tables e below (T.setTop (mkF m 209 #[.val (.long q1), .second, .val (.long q2), .second, .val (.long q3), .second, .val (.long q4), .second, .val (.int p5), .val (.long cq), .second, .val (.long dq), .second, .val (.ref b6), .val (.ref b8), .val (.int xy), .val (.int yx), .val (.int xx), .val (.int (0 : Int32)), .val (.int (0 : Int32)), .val (.int (1 : Int32)), .val (.int (1 : Int32))] [])) _
  refine XS.iload X0.here hx rfl (hb hby at_209) rfl ?_
  show Steps p.tables e below (T.setTop (mkF m 211 #[.val (.long q1), .second, .val (.long q2), .second, .val (.long q3), .second, .val (.long q4), .second, .val (.int p5), .val (.long cq), .second, .val (.long dq), .second, .val (.ref b6), .val (.ref b8), .val (.int xy), .val (.int yx), .val (.int xx), .val (.int (0 : Int32)), .val (.int (0 : Int32)), .val (.int (1 : Int32)), .val (.int (1 : Int32))] [(.int xx)])) _
  refine XS.ifNo X0.here hx rfl (hb hby at_211) rfl ((if0 _ _).trans (teq hc211).2) ?_
  show Steps p.tables e below (T.setTop (mkF m 214 #[.val (.long q1), .second, .val (.long q2), .second, .val (.long q3), .second, .val (.long q4), .second, .val (.int p5), .val (.long cq), .second, .val (.long dq), .second, .val (.ref b6), .val (.ref b8), .val (.int xy), .val (.int yx), .val (.int xx), .val (.int (0 : Int32)), .val (.int (0 : Int32)), .val (.int (1 : Int32)), .val (.int (1 : Int32))] [])) _
  refine XS.iload X0.here hx rfl (hb hby at_214) rfl ?_
  show Steps p.tables e below (T.setTop (mkF m 216 #[.val (.long q1), .second, .val (.long q2), .second, .val (.long q3), .second, .val (.long q4), .second, .val (.int p5), .val (.long cq), .second, .val (.long dq), .second, .val (.ref b6), .val (.ref b8), .val (.int xy), .val (.int yx), .val (.int xx), .val (.int (0 : Int32)), .val (.int (0 : Int32)), .val (.int (1 : Int32)), .val (.int (1 : Int32))] [(.int (1 : Int32))])) _
  refine XS.ifNo X0.here hx rfl (hb hby at_216) rfl ((if0 _ _).trans (feq hc216).1) ?_
  show Steps p.tables e below (T.setTop (mkF m 219 #[.val (.long q1), .second, .val (.long q2), .second, .val (.long q3), .second, .val (.long q4), .second, .val (.int p5), .val (.long cq), .second, .val (.long dq), .second, .val (.ref b6), .val (.ref b8), .val (.int xy), .val (.int yx), .val (.int xx), .val (.int (0 : Int32)), .val (.int (0 : Int32)), .val (.int (1 : Int32)), .val (.int (1 : Int32))] [])) _
  refine XS.iconst X0.here hx rfl (hb hby at_219) ?_
  show Steps p.tables e below (T.setTop (mkF m 220 #[.val (.long q1), .second, .val (.long q2), .second, .val (.long q3), .second, .val (.long q4), .second, .val (.int p5), .val (.long cq), .second, .val (.long dq), .second, .val (.ref b6), .val (.ref b8), .val (.int xy), .val (.int yx), .val (.int xx), .val (.int (0 : Int32)), .val (.int (0 : Int32)), .val (.int (1 : Int32)), .val (.int (1 : Int32))] [(.int (1 : Int32))])) _
  refine XS.goto X0.here hx rfl (pc0 := 220) (pc' := 224) rfl (hb hby at_220) (by decide) (by decide) ?_
  exact k _
theorem own_lt_facts {a c : Int64} (h : a < c) : ¬ lcmpW a c = 0 ∧ ¬ (0 : Int32) < lcmpW a c ∧ ¬ lcmpW c a = 0 ∧ (0 : Int32) < lcmpW c a := by
  have h' := Int64.lt_iff_toInt_lt.mp h
  rw [lw_eq, lw_gt, lw_eq, lw_gt]
  refine ⟨fun q => ?_, fun q => ?_, fun q => ?_, h⟩
  · rw [q] at h'; omega
  · have q' := Int64.lt_iff_toInt_lt.mp q; omega
  · rw [q] at h'; omega
theorem own_eq_facts (a : Int64) : lcmpW a a = 0 ∧ ¬ (0 : Int32) < lcmpW a a := by
  have e := (lw_eq a a).mpr rfl
  exact ⟨e, by rw [e]; decide⟩
theorem own_tri (a b : Int64) : a < b ∨ a = b ∨ b < a := by
  rw [Int64.lt_iff_toInt_lt, Int64.lt_iff_toInt_lt, ← Int64.toInt_inj]; omega
set_option maxRecDepth 65536 in
set_option maxHeartbeats 40000000 in
theorem own_post {p : Program} {l : Launch} {e : Env} {R : Room} {s : State} {m : MethodId} {args : Array Value} {below : List Frame} {meth : Method} {c : Code} {T : State} {locs : List Loc} {cells slots : Nat} {target : State} (X0 : Stand p l e R s m args below meth c T locs cells slots) (hx : p.tables.exec = Jvm.exec) (hby : c.code = code) (q1 q2 q3 q4 cq dq : Int64) (p5 xy yx xx : Int32) (b6 : Addr) (b8 : Addr) (hxy : xy = fvA q1 cq q2 dq) (hyx : yx = fvA cq q1 dq q2) (hxx : xx = fvA q1 q1 q2 q2) (k : ∀ Ls, Steps p.tables e below (T.setTop (mkF m 224 Ls [(.int (1 : Int32))])) target) : Steps p.tables e below (T.setTop (mkF m 81 #[.val (.long q1), .second, .val (.long q2), .second, .val (.long q3), .second, .val (.long q4), .second, .val (.int p5), .val (.long cq), .second, .val (.long dq), .second, .val (.ref b6), .val (.ref b8), .val (.int xy), .val (.int yx), .val (.int xx), .unset, .unset, .unset, .unset] [])) target := by
  have hxx0 : xx = 0 := by rw [hxx]; unfold fvA; rw [if_pos (own_eq_facts q1).1, if_neg (own_eq_facts q2).2]
  rcases own_tri q1 cq with h | h | h
  · obtain ⟨g2, g1, g5, g4⟩ := own_lt_facts h
    have hxy' : xy = 0 := by rw [hxy]; unfold fvA; rw [if_neg g2, if_neg g1]
    have hyx' : yx = 1 := by rw [hyx]; unfold fvA; rw [if_neg g5, if_pos g4]
    exact own_postB X0 hx hby q1 q2 q3 q4 cq dq p5 xy yx xx b6 b8 g1 g2 g4 g2 (by rw [hxy', hyx']; decide) hxy' hyx' hxx0 (by decide) k
  · subst h
    obtain ⟨g2, g1⟩ := own_eq_facts q1
    have g5 := g2
    have g4 := g1
    rcases own_tri q2 dq with h | h | h
    · obtain ⟨g7, g3, g8, g6⟩ := own_lt_facts h
      have hxy' : xy = 0 := by rw [hxy]; unfold fvA; rw [if_pos g2, if_neg g3]
      have hyx' : yx = 1 := by rw [hyx]; unfold fvA; rw [if_pos g2, if_pos g6]
      exact own_postD X0 hx hby q1 q2 q3 q4 _ dq p5 xy yx xx b6 b8 g1 g2 g3 g4 g5 g6 g2 g7 (by rw [hxy', hyx']; decide) hxy' hyx' hxx0 (by decide) k
    · subst h
      obtain ⟨g7, g3⟩ := own_eq_facts q2
      have g6 := g3
      have hxy' : xy = 0 := by rw [hxy]; unfold fvA; rw [if_pos g2, if_neg g3]
      have hyx' : yx = 0 := by rw [hyx]; unfold fvA; rw [if_pos g2, if_neg g3]
      exact own_postE X0 hx hby q1 q2 q3 q4 _ _ p5 xy yx xx b6 b8 g1 g2 g3 g4 g5 g6 g2 g7 (by decide) hxy' hyx' hxy' hyx' hxx0 (by decide) k
    · obtain ⟨g8, g6, g7, g3⟩ := own_lt_facts h
      have hxy' : xy = 1 := by rw [hxy]; unfold fvA; rw [if_pos g2, if_pos g3]
      have hyx' : yx = 0 := by rw [hyx]; unfold fvA; rw [if_pos g2, if_neg g6]
      exact own_postC X0 hx hby q1 q2 q3 q4 _ dq p5 xy yx xx b6 b8 g1 g2 g3 g4 g5 g6 g2 g7 (by rw [hxy', hyx']; decide) hxy' hyx' hxx0 (by decide) k
  · obtain ⟨g5, g4, g2, g1⟩ := own_lt_facts h
    have hxy' : xy = 1 := by rw [hxy]; unfold fvA; rw [if_neg g2, if_pos g1]
    have hyx' : yx = 0 := by rw [hyx]; unfold fvA; rw [if_neg g5, if_neg g4]
    exact own_postA X0 hx hby q1 q2 q3 q4 cq dq p5 xy yx xx b6 b8 g1 g4 g5 g2 (by rw [hxy', hyx']; decide) hxy' hyx' hxx0 (by decide) k
def QF (n0 : Nat) (v : Option Value) (h : Heap) (L : List Loc) : Prop := v = some (.int (1 : Int32)) ∧ Fr n0 L ∧ True
theorem pn_0 : plainName "com/example/chongshi/chongshi/CursorIsAfterPinLaw" = true := by first | (simp [plainName, overriddenIn]; done) | decide +kernel
theorem pd_0_0 : parseMethodDescriptor "(JJ)V" = some ⟨[.long, .long], none⟩ := by decide +kernel
theorem pd_0_2 : parseMethodDescriptor "(Lcom/example/chongshi/chongshi/DuePage$Cursor;)Z" = some ⟨[(.object "com/example/chongshi/chongshi/DuePage$Cursor")], some .boolean⟩ := by decide +kernel
theorem ef_0 (m : MethodId) (x0 : Int64) (x1 : Int64) (x2 : Int64) (x3 : Int64) (x4 : Int32) : entryFrame m #[(.long x0), (.long x1), (.long x2), (.long x3), (.int x4)] maxLocals = mkF m 0 #[.val (.long x0), .second, .val (.long x1), .second, .val (.long x2), .second, .val (.long x3), .second, .val (.int x4), .unset, .unset, .unset, .unset, .unset, .unset, .unset, .unset, .unset, .unset, .unset, .unset, .unset] [] := by first | (simp [entryFrame, mkF, argsToLocals, Value.category, maxLocals]; done) | rfl
set_option maxRecDepth 65536 in
set_option maxHeartbeats 40000000 in
theorem rm0 (l : Launch) (Z : State) (a0 : Array Value) (hw : ∀ d ∈ tables_1, d.before a0 Z = true) (ws : List Jvm.Cond) (q1 : Int64) (q2 : Int64) (q3 : Int64) (q4 : Int64) (p5 : Int32) (h0 : Heap) (n0 : Nat) (Z0 : n0 ≤ h0.size) :
    MetFree l x (head1 (Jvm.Cond.code x code maxLocals ret :: ws) room_1) (fun a U => a = #[(.long q1), (.long q2), (.long q3), (.long q4), (.int p5)] ∧ Z.Warmed39 U.vm ∧ U.heap = h0) (fun _ _ _ _ _ => True) (fun _ U o U' => ∃ v L, o = .returned v ∧ QF n0 v U'.heap L ∧ ReturnedEndW U o U' L room_1.cells room_1.slots) := by
  refine MetFree.of_bodySF (plainFor_of_name pn_0) hisR ?_
  intro p e s m args below meth c s₁ Bd hml0 hP hK
  obtain ⟨rfl, hZ, hh⟩ := hP
  have hx := Bd.exec
  have hby := Bd.bytes
  have hml : c.maxLocals = 22 := hml0
  have hown : s.vm.findClass "com/example/chongshi/chongshi/CursorIsAfterPinLaw" = some m.cls := findClass_of_methodNamed Bd.named
  have hnm := (name_of_methodNamed Bd.named Bd.method).1
  have X0 : Stand p l e room_1 s m #[(.long q1), (.long q2), (.long q3), (.long q4), (.int p5)] below meth c s₁ [] 0 0 := Stand.of_body Bd
  have e0 : s₁.heap = h0 := by rw [← hh, Bd.state]; rfl
  have N0 := Fr.nil n0
  have pre0 : ∀ t, Steps p.tables e below (s₁.setTop (mkF m 0 #[.val (.long q1), .second, .val (.long q2), .second, .val (.long q3), .second, .val (.long q4), .second, .val (.int p5), .unset, .unset, .unset, .unset, .unset, .unset, .unset, .unset, .unset, .unset, .unset, .unset, .unset] [])) t → Steps p.tables e below (s₁.setTop (entryFrame m #[(.long q1), (.long q2), (.long q3), (.long q4), (.int p5)] maxLocals)) t := fun t k => castTop (ef_0 m q1 q2 q3 q4 p5) k
  obtain ⟨cq, hcq⟩ : ∃ z, z = (if (p5 &&& (1 : Int32)) = (0 : Int32) then q3 else q1) := ⟨_, rfl⟩
  obtain ⟨dq, hdq⟩ : ∃ z, z = (if (p5 &&& (2 : Int32)) = (0 : Int32) then q4 else q2) := ⟨_, rfl⟩
  obtain ⟨T6, h6, X6, e6, E6, A6, D6, -, st6⟩ := newO X0 hx hZ hown (hw _ (List.mem_of_getElem? (i := 0) rfl)) (hw _ (List.mem_of_getElem? (i := 1) rfl)) (hw _ (List.mem_of_getElem? (i := 2) rfl)) e0 (g := (mkF m 30 #[.val (.long q1), .second, .val (.long q2), .second, .val (.long q3), .second, .val (.long q4), .second, .val (.int p5), .val (.long cq), .second, .val (.long dq), .second, .unset, .unset, .unset, .unset, .unset, .unset, .unset, .unset, .unset] [])) rfl (hb hby at_30) (by decide) (by decide)
  obtain ⟨b6, g6⟩ : ∃ z, z = h0.size := ⟨_, rfl⟩      -- the fresh object's address
  rw [← g6] at A6 D6 st6      -- A6 : Exa Z h6 b6 "com/example/chongshi/chongshi/DuePage$Cursor"; E6 : Ext h0 h6 (carries every older fact: .ext E6)
  have F_dueMillis_b6 : Fld Z h6 b6 "com/example/chongshi/chongshi/DuePage$Cursor" "dueMillis" "J" (.long (0 : Int64)) := D6 (Or.inr (hw _ (List.mem_of_getElem? (i := 15) rfl))) (ty := .long) (by decide)
  have F_id_b6 : Fld Z h6 b6 "com/example/chongshi/chongshi/DuePage$Cursor" "id" "J" (.long (0 : Int64)) := D6 (Or.inr (hw _ (List.mem_of_getElem? (i := 17) rfl))) (ty := .long) (by decide)
  have E_b6 := A6
  have g_b6 : n0 ≤ b6 := Nat.le_trans Z0 (Nat.le_of_eq g6.symm)
  have sz_b6 : h0.size ≤ b6 := (Nat.le_trans (Keep.refl h0 []).1 (Nat.le_of_eq g6.symm))
  have K6 : Keep h0 h6 [] := (Keep.refl h0 []).ext E6
  -- pc 36: the constructor of com/example/chongshi/chongshi/DuePage$Cursor by its contract rm1
  obtain ⟨_, _, ⟨T7, L7, k7, n7⟩, -, X7, ⟨Lc7, hQ7, l7, y7, z7⟩, st7⟩ := X6.specialBack hx (y := (⟨"com/example/chongshi/chongshi/DuePage$Cursor", "<init>", "(JJ)V"⟩ : MethodName)) rfl hown (mvT hZ (hw _ (List.mem_of_getElem? (i := 3) rfl))) (mvT hZ (hw _ (List.mem_of_getElem? (i := 4) rfl))) (mvT hZ (hw _ (List.mem_of_getElem? (i := 5) rfl))) (by decide) (backOf (W := 1) (rm1 l Z a0 hw [] b6 q1 q2 (.long (0 : Int64)) (.long (0 : Int64)) h6 n0 (Nat.le_trans Z0 E6.1) E_b6 F_dueMillis_b6 g_b6 F_id_b6) hZ (hw _ (List.mem_of_getElem? (i := 5) rfl)) (hw _ (List.mem_of_getElem? (i := 2) rfl)) (by decide) (by decide)) (g := (mkF m 36 #[.val (.long q1), .second, .val (.long q2), .second, .val (.long q3), .second, .val (.long q4), .second, .val (.int p5), .val (.long cq), .second, .val (.long dq), .second, .unset, .unset, .unset, .unset, .unset, .unset, .unset, .unset, .unset] [(.long q2), (.long q1), (.ref b6), (.ref b6)])) rfl (by rw [hml]; rfl) (Steps.refl _) (a := b6) (argsL := [(.long q1), (.long q2)]) (rest := [(.ref b6)]) (lenOf pd_0_0 rfl) rfl (by show 2 * 0 + _ ≤ _; exact Nat.le_of_eq rfl) (hb hby at_36) (fun _ _ => ⟨rfl, e6, (by decide : 1 + 0 ≤ _), (by decide : 2 + 0 ≤ _)⟩)
  dsimp only [Pt.U, Pt.locs, Pt.cells, Pt.slots] at X7 l7 y7 z7 st7 hQ7
  subst l7 y7 z7
  obtain ⟨rfl, N7q, KQ7', E7q, Fd7q, Fi7q⟩ := hQ7
  have N7 := Fr.app N0 N7q
  have KQ7 : Keep h6 T7.heap [b6] := KQ7'
  have K7 : Keep h0 T7.heap [] := K6.trans KQ7 (allS (Or.inr sz_b6) all0)
  obtain ⟨T8, h8, X8, e8, E8, A8, D8, -, st8⟩ := newO X7 hx hZ hown (hw _ (List.mem_of_getElem? (i := 0) rfl)) (hw _ (List.mem_of_getElem? (i := 1) rfl)) (hw _ (List.mem_of_getElem? (i := 2) rfl)) rfl (g := (mkF m 41 #[.val (.long q1), .second, .val (.long q2), .second, .val (.long q3), .second, .val (.long q4), .second, .val (.int p5), .val (.long cq), .second, .val (.long dq), .second, .val (.ref b6), .unset, .unset, .unset, .unset, .unset, .unset, .unset, .unset] [])) rfl (hb hby at_41) (by decide) (by decide)
  obtain ⟨b8, g8⟩ : ∃ z, z = T7.heap.size := ⟨_, rfl⟩      -- the fresh object's address
  rw [← g8] at A8 D8 st8      -- A8 : Exa Z h8 b8 "com/example/chongshi/chongshi/DuePage$Cursor"; E8 : Ext T7.heap h8 (carries every older fact: .ext E8)
  have F_dueMillis_b8 : Fld Z h8 b8 "com/example/chongshi/chongshi/DuePage$Cursor" "dueMillis" "J" (.long (0 : Int64)) := D8 (Or.inr (hw _ (List.mem_of_getElem? (i := 15) rfl))) (ty := .long) (by decide)
  have F_id_b8 : Fld Z h8 b8 "com/example/chongshi/chongshi/DuePage$Cursor" "id" "J" (.long (0 : Int64)) := D8 (Or.inr (hw _ (List.mem_of_getElem? (i := 17) rfl))) (ty := .long) (by decide)
  have E_b8 := A8
  have g_b8 : n0 ≤ b8 := Nat.le_trans (Nat.le_trans (Nat.le_trans Z0 E6.1) KQ7.1) (Nat.le_of_eq g8.symm)
  have sz_b8 : h0.size ≤ b8 := (Nat.le_trans K7.1 (Nat.le_of_eq g8.symm))
  have K8 : Keep h0 h8 [] := K7.ext E8
  -- pc 49: the constructor of com/example/chongshi/chongshi/DuePage$Cursor by its contract rm1
  obtain ⟨_, _, ⟨T9, L9, k9, n9⟩, -, X9, ⟨Lc9, hQ9, l9, y9, z9⟩, st9⟩ := X8.specialBack hx (y := (⟨"com/example/chongshi/chongshi/DuePage$Cursor", "<init>", "(JJ)V"⟩ : MethodName)) rfl hown (mvT hZ (hw _ (List.mem_of_getElem? (i := 3) rfl))) (mvT hZ (hw _ (List.mem_of_getElem? (i := 4) rfl))) (mvT hZ (hw _ (List.mem_of_getElem? (i := 5) rfl))) (by decide) (backOf (W := 1) (rm1 l Z a0 hw [] b8 cq dq (.long (0 : Int64)) (.long (0 : Int64)) h8 n0 (Nat.le_trans (Nat.le_trans (Nat.le_trans Z0 E6.1) KQ7.1) E8.1) E_b8 F_dueMillis_b8 g_b8 F_id_b8) hZ (hw _ (List.mem_of_getElem? (i := 5) rfl)) (hw _ (List.mem_of_getElem? (i := 2) rfl)) (by decide) (by decide)) (g := (mkF m 49 #[.val (.long q1), .second, .val (.long q2), .second, .val (.long q3), .second, .val (.long q4), .second, .val (.int p5), .val (.long cq), .second, .val (.long dq), .second, .val (.ref b6), .unset, .unset, .unset, .unset, .unset, .unset, .unset, .unset] [(.long dq), (.long cq), (.ref b8), (.ref b8)])) rfl (by rw [hml]; rfl) (Steps.refl _) (a := b8) (argsL := [(.long cq), (.long dq)]) (rest := [(.ref b8)]) (lenOf pd_0_0 rfl) rfl (by show 2 * 0 + _ ≤ _; exact Nat.le_of_eq rfl) (hb hby at_49) (fun _ _ => ⟨rfl, e8, (by decide : 2 + 0 ≤ _), (by decide : 4 + 0 ≤ _)⟩)
  dsimp only [Pt.U, Pt.locs, Pt.cells, Pt.slots] at X9 l9 y9 z9 st9 hQ9
  subst l9 y9 z9
  obtain ⟨rfl, N9q, KQ9', E9q, Fd9q, Fi9q⟩ := hQ9
  have N9 := Fr.app N7 N9q
  have KQ9 : Keep h8 T9.heap [b8] := KQ9'
  have K9 : Keep h0 T9.heap [] := K8.trans KQ9 (allS (Or.inr sz_b8) all0)
  -- pc 58: com/example/chongshi/chongshi/DuePage$Cursor.isAfter by the contract of the body that the receiver's class selects, rm4
  obtain ⟨cq10, kq10, q10a, q10b, q10c⟩ := isOf hZ rfl ((E7q.ext E8).keep KQ9)
  obtain ⟨_, _, ⟨T10, L10, k10, n10⟩, -, X10, hSq10, hgq10, ⟨Lc10, hQ10, l10, y10, z10⟩, st10⟩ := X9.virtualBackS hx (y := (⟨"com/example/chongshi/chongshi/DuePage$Cursor", "isAfter", "(Lcom/example/chongshi/chongshi/DuePage$Cursor;)Z"⟩ : MethodName)) (z := (⟨"com/example/chongshi/chongshi/DuePage$Cursor", "isAfter", "(Lcom/example/chongshi/chongshi/DuePage$Cursor;)Z"⟩ : MethodName)) hown (mvT hZ (hw _ (List.mem_of_getElem? (i := 18) rfl))) (mvT hZ (hw _ (List.mem_of_getElem? (i := 19) rfl))) (notFace_of_selects (args := #[]) (mvT hZ (hw _ (List.mem_of_getElem? (i := 21) rfl)))) (mvT hZ (hw _ (List.mem_of_getElem? (i := 21) rfl))) (mvT hZ (hw _ (List.mem_of_getElem? (i := 20) rfl))) (by decide) (backOfS (W := 0) (rm4 l Z a0 hw [] b6 b8 q1 cq q2 dq T9.heap n0 (Nat.le_trans (Nat.le_trans (Nat.le_trans (Nat.le_trans Z0 E6.1) KQ7.1) E8.1) KQ9.1) ((Fd7q.ext E8).keep KQ9 (ninS (Nat.ne_of_lt (Nat.lt_of_lt_of_le E7q.lt (Nat.le_of_eq g8.symm))) nin0)) Fd9q ((Fi7q.ext E8).keep KQ9 (ninS (Nat.ne_of_lt (Nat.lt_of_lt_of_le E7q.lt (Nat.le_of_eq g8.symm))) nin0)) Fi9q) hZ (hw _ (List.mem_of_getElem? (i := 22) rfl)) (hw _ (List.mem_of_getElem? (i := 2) rfl)) (by decide) (by decide)) q10a q10c (g := (mkF m 58 #[.val (.long q1), .second, .val (.long q2), .second, .val (.long q3), .second, .val (.long q4), .second, .val (.int p5), .val (.long cq), .second, .val (.long dq), .second, .val (.ref b6), .val (.ref b8), .unset, .unset, .unset, .unset, .unset, .unset, .unset] [(.ref b8), (.ref b6)])) rfl (by rw [hml]; rfl) (Steps.refl _) (argsL := [(.ref b8)]) (rest := []) (lenOf pd_0_2 rfl) rfl (by show 2 * 0 + _ ≤ _; exact Nat.le_of_eq rfl) (hb hby at_58) (fun _ _ => ⟨rfl, rfl, (by decide : 2 + 2 ≤ _), (by decide : 4 + 24 ≤ _)⟩)
  dsimp only [Pt.U, Pt.locs, Pt.cells, Pt.slots] at X10 l10 y10 z10 st10 hQ10 hSq10 hgq10
  subst l10 y10 z10
  obtain ⟨rfl, N10q, KQ10'⟩ := hQ10
  have N10 := Fr.app N9 N10q
  have KQ10 : Keep T9.heap T10.heap [] := KQ10'
  have K10 : Keep h0 T10.heap [] := K9.trans KQ10 all0
  have S0 : s.Since s.vm 0 := (State.WarmedH.refl s).since 0
  have S10 : s.Since T10.vm T10.heap.size := S0.trans hSq10 (Nat.zero_le _)
  have hZ : Z.Warmed39 (s.setVm T10.vm).vm := State.Warmed39.trans (t := s) hZ hSq10.1
  have hown : (s.setVm T10.vm).vm.findClass "com/example/chongshi/chongshi/CursorIsAfterPinLaw" = some m.cls := by rw [show (s.setVm T10.vm).vm = T10.vm from rfl, hSq10.1.alike.findClass]; exact hown
  -- pc 67: com/example/chongshi/chongshi/DuePage$Cursor.isAfter by the contract of the body that the receiver's class selects, rm4
  obtain ⟨cq11, kq11, q11a, q11b, q11c⟩ := isOf hZ rfl (E9q.keep KQ10)
  obtain ⟨_, _, ⟨T11, L11, k11, n11⟩, -, X11, hSq11, hgq11, ⟨Lc11, hQ11, l11, y11, z11⟩, st11⟩ := X10.virtualBackS hx (y := (⟨"com/example/chongshi/chongshi/DuePage$Cursor", "isAfter", "(Lcom/example/chongshi/chongshi/DuePage$Cursor;)Z"⟩ : MethodName)) (z := (⟨"com/example/chongshi/chongshi/DuePage$Cursor", "isAfter", "(Lcom/example/chongshi/chongshi/DuePage$Cursor;)Z"⟩ : MethodName)) hown (mvT hZ (hw _ (List.mem_of_getElem? (i := 18) rfl))) (mvT hZ (hw _ (List.mem_of_getElem? (i := 19) rfl))) (notFace_of_selects (args := #[]) (mvT hZ (hw _ (List.mem_of_getElem? (i := 21) rfl)))) (mvT hZ (hw _ (List.mem_of_getElem? (i := 21) rfl))) (mvT hZ (hw _ (List.mem_of_getElem? (i := 20) rfl))) (by decide) (backOfS (W := 0) (rm4 l Z a0 hw [] b8 b6 cq q1 dq q2 T10.heap n0 (Nat.le_trans (Nat.le_trans (Nat.le_trans (Nat.le_trans (Nat.le_trans Z0 E6.1) KQ7.1) E8.1) KQ9.1) KQ10.1) (Fd9q.keep KQ10 nin0) (((Fd7q.ext E8).keep KQ9 (ninS (Nat.ne_of_lt (Nat.lt_of_lt_of_le E7q.lt (Nat.le_of_eq g8.symm))) nin0)).keep KQ10 nin0) (Fi9q.keep KQ10 nin0) (((Fi7q.ext E8).keep KQ9 (ninS (Nat.ne_of_lt (Nat.lt_of_lt_of_le E7q.lt (Nat.le_of_eq g8.symm))) nin0)).keep KQ10 nin0)) hZ (hw _ (List.mem_of_getElem? (i := 22) rfl)) (hw _ (List.mem_of_getElem? (i := 2) rfl)) (by decide) (by decide)) q11a q11c (g := (mkF m 67 #[.val (.long q1), .second, .val (.long q2), .second, .val (.long q3), .second, .val (.long q4), .second, .val (.int p5), .val (.long cq), .second, .val (.long dq), .second, .val (.ref b6), .val (.ref b8), .val (.int (fvA q1 cq q2 dq)), .unset, .unset, .unset, .unset, .unset, .unset] [(.ref b6), (.ref b8)])) rfl (by rw [hml]; rfl) (Steps.refl _) (argsL := [(.ref b6)]) (rest := []) (lenOf pd_0_2 rfl) rfl (by show 2 * 0 + _ ≤ _; exact Nat.le_of_eq rfl) (hb hby at_67) (fun _ _ => ⟨rfl, rfl, (by decide : 4 + 2 ≤ _), (by decide : 28 + 24 ≤ _)⟩)
  dsimp only [Pt.U, Pt.locs, Pt.cells, Pt.slots] at X11 l11 y11 z11 st11 hQ11 hSq11 hgq11
  subst l11 y11 z11
  obtain ⟨rfl, N11q, KQ11'⟩ := hQ11
  have N11 := Fr.app N10 N11q
  have KQ11 : Keep T10.heap T11.heap [] := KQ11'
  have K11 : Keep h0 T11.heap [] := K10.trans KQ11 all0
  have S11 : s.Since T11.vm T11.heap.size := S10.trans hSq11 hgq11
  have hZ : Z.Warmed39 (s.setVm T11.vm).vm := State.Warmed39.trans (t := (s.setVm T10.vm)) hZ hSq11.1
  have hown : (s.setVm T11.vm).vm.findClass "com/example/chongshi/chongshi/CursorIsAfterPinLaw" = some m.cls := by rw [show (s.setVm T11.vm).vm = T11.vm from rfl, hSq11.1.alike.findClass]; exact hown
  -- pc 76: com/example/chongshi/chongshi/DuePage$Cursor.isAfter by the contract of the body that the receiver's class selects, rm4
  obtain ⟨cq12, kq12, q12a, q12b, q12c⟩ := isOf hZ rfl ((((E7q.ext E8).keep KQ9).keep KQ10).keep KQ11)
  obtain ⟨_, _, ⟨T12, L12, k12, n12⟩, -, X12, hSq12, hgq12, ⟨Lc12, hQ12, l12, y12, z12⟩, st12⟩ := X11.virtualBackS hx (y := (⟨"com/example/chongshi/chongshi/DuePage$Cursor", "isAfter", "(Lcom/example/chongshi/chongshi/DuePage$Cursor;)Z"⟩ : MethodName)) (z := (⟨"com/example/chongshi/chongshi/DuePage$Cursor", "isAfter", "(Lcom/example/chongshi/chongshi/DuePage$Cursor;)Z"⟩ : MethodName)) hown (mvT hZ (hw _ (List.mem_of_getElem? (i := 18) rfl))) (mvT hZ (hw _ (List.mem_of_getElem? (i := 19) rfl))) (notFace_of_selects (args := #[]) (mvT hZ (hw _ (List.mem_of_getElem? (i := 21) rfl)))) (mvT hZ (hw _ (List.mem_of_getElem? (i := 21) rfl))) (mvT hZ (hw _ (List.mem_of_getElem? (i := 20) rfl))) (by decide) (backOfS (W := 0) (rm4 l Z a0 hw [] b6 b6 q1 q1 q2 q2 T11.heap n0 (Nat.le_trans (Nat.le_trans (Nat.le_trans (Nat.le_trans (Nat.le_trans (Nat.le_trans Z0 E6.1) KQ7.1) E8.1) KQ9.1) KQ10.1) KQ11.1) ((((Fd7q.ext E8).keep KQ9 (ninS (Nat.ne_of_lt (Nat.lt_of_lt_of_le E7q.lt (Nat.le_of_eq g8.symm))) nin0)).keep KQ10 nin0).keep KQ11 nin0) ((((Fd7q.ext E8).keep KQ9 (ninS (Nat.ne_of_lt (Nat.lt_of_lt_of_le E7q.lt (Nat.le_of_eq g8.symm))) nin0)).keep KQ10 nin0).keep KQ11 nin0) ((((Fi7q.ext E8).keep KQ9 (ninS (Nat.ne_of_lt (Nat.lt_of_lt_of_le E7q.lt (Nat.le_of_eq g8.symm))) nin0)).keep KQ10 nin0).keep KQ11 nin0) ((((Fi7q.ext E8).keep KQ9 (ninS (Nat.ne_of_lt (Nat.lt_of_lt_of_le E7q.lt (Nat.le_of_eq g8.symm))) nin0)).keep KQ10 nin0).keep KQ11 nin0)) hZ (hw _ (List.mem_of_getElem? (i := 22) rfl)) (hw _ (List.mem_of_getElem? (i := 2) rfl)) (by decide) (by decide)) q12a q12c (g := (mkF m 76 #[.val (.long q1), .second, .val (.long q2), .second, .val (.long q3), .second, .val (.long q4), .second, .val (.int p5), .val (.long cq), .second, .val (.long dq), .second, .val (.ref b6), .val (.ref b8), .val (.int (fvA q1 cq q2 dq)), .val (.int (fvA cq q1 dq q2)), .unset, .unset, .unset, .unset, .unset] [(.ref b6), (.ref b6)])) rfl (by rw [hml]; rfl) (Steps.refl _) (argsL := [(.ref b6)]) (rest := []) (lenOf pd_0_2 rfl) rfl (by show 2 * 0 + _ ≤ _; exact Nat.le_of_eq rfl) (hb hby at_76) (fun _ _ => ⟨rfl, rfl, (by decide : 6 + 2 ≤ _), (by decide : 52 + 24 ≤ _)⟩)
  dsimp only [Pt.U, Pt.locs, Pt.cells, Pt.slots] at X12 l12 y12 z12 st12 hQ12 hSq12 hgq12
  subst l12 y12 z12
  obtain ⟨rfl, N12q, KQ12'⟩ := hQ12
  have N12 := Fr.app N11 N12q
  have KQ12 : Keep T11.heap T12.heap [] := KQ12'
  have K12 : Keep h0 T12.heap [] := K11.trans KQ12 all0
  have S12 : s.Since T12.vm T12.heap.size := S11.trans hSq12 hgq12
  have hZ : Z.Warmed39 (s.setVm T12.vm).vm := State.Warmed39.trans (t := (s.setVm T11.vm)) hZ hSq12.1
  have hown : (s.setVm T12.vm).vm.findClass "com/example/chongshi/chongshi/CursorIsAfterPinLaw" = some m.cls := by rw [show (s.setVm T12.vm).vm = T12.vm from rfl, hSq12.1.alike.findClass]; exact hown
  obtain ⟨fs, hr, hrun, hended, hRW⟩ := X12.leaveW (s := s) (vm₁ := T12.vm) S12 (Nat.le_refl _) (v := some (.int (1 : Int32))) (fun h => by rw [Bd.returns] at h; cases h)
  refine ⟨_, _, pre0 _ ?_, hrun, hended, _, _, rfl, ?_, own_wmono hRW (by decide) (by decide)⟩
  -- 4. STEPS
  · show Steps p.tables e below (s₁.setTop (mkF m 0 #[.val (.long q1), .second, .val (.long q2), .second, .val (.long q3), .second, .val (.long q4), .second, .val (.int p5), .unset, .unset, .unset, .unset, .unset, .unset, .unset, .unset, .unset, .unset, .unset, .unset, .unset] [])) _
    refine own_pre X0 hx hby q1 q2 q3 q4 p5 ?_
    rw [← hcq, ← hdq]
    show Steps p.tables e below (s₁.setTop (mkF m 30 #[.val (.long q1), .second, .val (.long q2), .second, .val (.long q3), .second, .val (.long q4), .second, .val (.int p5), .val (.long cq), .second, .val (.long dq), .second, .unset, .unset, .unset, .unset, .unset, .unset, .unset, .unset, .unset] [])) _
    refine st6 _ ?_
    show Steps p.tables e below (T6.setTop (mkF m 33 #[.val (.long q1), .second, .val (.long q2), .second, .val (.long q3), .second, .val (.long q4), .second, .val (.int p5), .val (.long cq), .second, .val (.long dq), .second, .unset, .unset, .unset, .unset, .unset, .unset, .unset, .unset, .unset] [(.ref b6)])) _
    refine XS.dup X6.here hx rfl (hb hby at_33) rfl rfl ?_
    show Steps p.tables e below (T6.setTop (mkF m 34 #[.val (.long q1), .second, .val (.long q2), .second, .val (.long q3), .second, .val (.long q4), .second, .val (.int p5), .val (.long cq), .second, .val (.long dq), .second, .unset, .unset, .unset, .unset, .unset, .unset, .unset, .unset, .unset] [(.ref b6), (.ref b6)])) _
    refine XS.lloadN X6.here hx rfl (hb hby at_34) rfl ?_
    show Steps p.tables e below (T6.setTop (mkF m 35 #[.val (.long q1), .second, .val (.long q2), .second, .val (.long q3), .second, .val (.long q4), .second, .val (.int p5), .val (.long cq), .second, .val (.long dq), .second, .unset, .unset, .unset, .unset, .unset, .unset, .unset, .unset, .unset] [(.long q1), (.ref b6), (.ref b6)])) _
    refine XS.lloadN X6.here hx rfl (hb hby at_35) rfl ?_
    show Steps p.tables e below (T6.setTop (mkF m 36 #[.val (.long q1), .second, .val (.long q2), .second, .val (.long q3), .second, .val (.long q4), .second, .val (.int p5), .val (.long cq), .second, .val (.long dq), .second, .unset, .unset, .unset, .unset, .unset, .unset, .unset, .unset, .unset] [(.long q2), (.long q1), (.ref b6), (.ref b6)])) _
    refine st7.trans ?_
    show Steps p.tables e below (T7.setTop (mkF m 39 #[.val (.long q1), .second, .val (.long q2), .second, .val (.long q3), .second, .val (.long q4), .second, .val (.int p5), .val (.long cq), .second, .val (.long dq), .second, .unset, .unset, .unset, .unset, .unset, .unset, .unset, .unset, .unset] [(.ref b6)])) _
    refine XS.astore X7.here hx rfl (hb hby at_39) rfl rfl (l' := #[.val (.long q1), .second, .val (.long q2), .second, .val (.long q3), .second, .val (.long q4), .second, .val (.int p5), .val (.long cq), .second, .val (.long dq), .second, .val (.ref b6), .unset, .unset, .unset, .unset, .unset, .unset, .unset, .unset]) rfl ?_
    show Steps p.tables e below (T7.setTop (mkF m 41 #[.val (.long q1), .second, .val (.long q2), .second, .val (.long q3), .second, .val (.long q4), .second, .val (.int p5), .val (.long cq), .second, .val (.long dq), .second, .val (.ref b6), .unset, .unset, .unset, .unset, .unset, .unset, .unset, .unset] [])) _
    refine st8 _ ?_
    show Steps p.tables e below (T8.setTop (mkF m 44 #[.val (.long q1), .second, .val (.long q2), .second, .val (.long q3), .second, .val (.long q4), .second, .val (.int p5), .val (.long cq), .second, .val (.long dq), .second, .val (.ref b6), .unset, .unset, .unset, .unset, .unset, .unset, .unset, .unset] [(.ref b8)])) _
    refine XS.dup X8.here hx rfl (hb hby at_44) rfl rfl ?_
    show Steps p.tables e below (T8.setTop (mkF m 45 #[.val (.long q1), .second, .val (.long q2), .second, .val (.long q3), .second, .val (.long q4), .second, .val (.int p5), .val (.long cq), .second, .val (.long dq), .second, .val (.ref b6), .unset, .unset, .unset, .unset, .unset, .unset, .unset, .unset] [(.ref b8), (.ref b8)])) _
    refine XS.lload X8.here hx rfl (hb hby at_45) rfl ?_
    show Steps p.tables e below (T8.setTop (mkF m 47 #[.val (.long q1), .second, .val (.long q2), .second, .val (.long q3), .second, .val (.long q4), .second, .val (.int p5), .val (.long cq), .second, .val (.long dq), .second, .val (.ref b6), .unset, .unset, .unset, .unset, .unset, .unset, .unset, .unset] [(.long cq), (.ref b8), (.ref b8)])) _
    refine XS.lload X8.here hx rfl (hb hby at_47) rfl ?_
    show Steps p.tables e below (T8.setTop (mkF m 49 #[.val (.long q1), .second, .val (.long q2), .second, .val (.long q3), .second, .val (.long q4), .second, .val (.int p5), .val (.long cq), .second, .val (.long dq), .second, .val (.ref b6), .unset, .unset, .unset, .unset, .unset, .unset, .unset, .unset] [(.long dq), (.long cq), (.ref b8), (.ref b8)])) _
    refine st9.trans ?_
    show Steps p.tables e below (T9.setTop (mkF m 52 #[.val (.long q1), .second, .val (.long q2), .second, .val (.long q3), .second, .val (.long q4), .second, .val (.int p5), .val (.long cq), .second, .val (.long dq), .second, .val (.ref b6), .unset, .unset, .unset, .unset, .unset, .unset, .unset, .unset] [(.ref b8)])) _
    refine XS.astore X9.here hx rfl (hb hby at_52) rfl rfl (l' := #[.val (.long q1), .second, .val (.long q2), .second, .val (.long q3), .second, .val (.long q4), .second, .val (.int p5), .val (.long cq), .second, .val (.long dq), .second, .val (.ref b6), .val (.ref b8), .unset, .unset, .unset, .unset, .unset, .unset, .unset]) rfl ?_
    show Steps p.tables e below (T9.setTop (mkF m 54 #[.val (.long q1), .second, .val (.long q2), .second, .val (.long q3), .second, .val (.long q4), .second, .val (.int p5), .val (.long cq), .second, .val (.long dq), .second, .val (.ref b6), .val (.ref b8), .unset, .unset, .unset, .unset, .unset, .unset, .unset] [])) _
    refine XS.aload X9.here hx rfl (hb hby at_54) rfl rfl ?_
    show Steps p.tables e below (T9.setTop (mkF m 56 #[.val (.long q1), .second, .val (.long q2), .second, .val (.long q3), .second, .val (.long q4), .second, .val (.int p5), .val (.long cq), .second, .val (.long dq), .second, .val (.ref b6), .val (.ref b8), .unset, .unset, .unset, .unset, .unset, .unset, .unset] [(.ref b6)])) _
    refine XS.aload X9.here hx rfl (hb hby at_56) rfl rfl ?_
    show Steps p.tables e below (T9.setTop (mkF m 58 #[.val (.long q1), .second, .val (.long q2), .second, .val (.long q3), .second, .val (.long q4), .second, .val (.int p5), .val (.long cq), .second, .val (.long dq), .second, .val (.ref b6), .val (.ref b8), .unset, .unset, .unset, .unset, .unset, .unset, .unset] [(.ref b8), (.ref b6)])) _
    refine st10.trans ?_
    show Steps p.tables e below (T10.setTop (mkF m 61 #[.val (.long q1), .second, .val (.long q2), .second, .val (.long q3), .second, .val (.long q4), .second, .val (.int p5), .val (.long cq), .second, .val (.long dq), .second, .val (.ref b6), .val (.ref b8), .unset, .unset, .unset, .unset, .unset, .unset, .unset] [(.int (fvA q1 cq q2 dq))])) _
    refine XS.istore X10.here hx rfl (hb hby at_61) rfl (l' := #[.val (.long q1), .second, .val (.long q2), .second, .val (.long q3), .second, .val (.long q4), .second, .val (.int p5), .val (.long cq), .second, .val (.long dq), .second, .val (.ref b6), .val (.ref b8), .val (.int (fvA q1 cq q2 dq)), .unset, .unset, .unset, .unset, .unset, .unset]) rfl ?_
    show Steps p.tables e below (T10.setTop (mkF m 63 #[.val (.long q1), .second, .val (.long q2), .second, .val (.long q3), .second, .val (.long q4), .second, .val (.int p5), .val (.long cq), .second, .val (.long dq), .second, .val (.ref b6), .val (.ref b8), .val (.int (fvA q1 cq q2 dq)), .unset, .unset, .unset, .unset, .unset, .unset] [])) _
    refine XS.aload X10.here hx rfl (hb hby at_63) rfl rfl ?_
    show Steps p.tables e below (T10.setTop (mkF m 65 #[.val (.long q1), .second, .val (.long q2), .second, .val (.long q3), .second, .val (.long q4), .second, .val (.int p5), .val (.long cq), .second, .val (.long dq), .second, .val (.ref b6), .val (.ref b8), .val (.int (fvA q1 cq q2 dq)), .unset, .unset, .unset, .unset, .unset, .unset] [(.ref b8)])) _
    refine XS.aload X10.here hx rfl (hb hby at_65) rfl rfl ?_
    show Steps p.tables e below (T10.setTop (mkF m 67 #[.val (.long q1), .second, .val (.long q2), .second, .val (.long q3), .second, .val (.long q4), .second, .val (.int p5), .val (.long cq), .second, .val (.long dq), .second, .val (.ref b6), .val (.ref b8), .val (.int (fvA q1 cq q2 dq)), .unset, .unset, .unset, .unset, .unset, .unset] [(.ref b6), (.ref b8)])) _
    refine st11.trans ?_
    show Steps p.tables e below (T11.setTop (mkF m 70 #[.val (.long q1), .second, .val (.long q2), .second, .val (.long q3), .second, .val (.long q4), .second, .val (.int p5), .val (.long cq), .second, .val (.long dq), .second, .val (.ref b6), .val (.ref b8), .val (.int (fvA q1 cq q2 dq)), .unset, .unset, .unset, .unset, .unset, .unset] [(.int (fvA cq q1 dq q2))])) _
    refine XS.istore X11.here hx rfl (hb hby at_70) rfl (l' := #[.val (.long q1), .second, .val (.long q2), .second, .val (.long q3), .second, .val (.long q4), .second, .val (.int p5), .val (.long cq), .second, .val (.long dq), .second, .val (.ref b6), .val (.ref b8), .val (.int (fvA q1 cq q2 dq)), .val (.int (fvA cq q1 dq q2)), .unset, .unset, .unset, .unset, .unset]) rfl ?_
    show Steps p.tables e below (T11.setTop (mkF m 72 #[.val (.long q1), .second, .val (.long q2), .second, .val (.long q3), .second, .val (.long q4), .second, .val (.int p5), .val (.long cq), .second, .val (.long dq), .second, .val (.ref b6), .val (.ref b8), .val (.int (fvA q1 cq q2 dq)), .val (.int (fvA cq q1 dq q2)), .unset, .unset, .unset, .unset, .unset] [])) _
    refine XS.aload X11.here hx rfl (hb hby at_72) rfl rfl ?_
    show Steps p.tables e below (T11.setTop (mkF m 74 #[.val (.long q1), .second, .val (.long q2), .second, .val (.long q3), .second, .val (.long q4), .second, .val (.int p5), .val (.long cq), .second, .val (.long dq), .second, .val (.ref b6), .val (.ref b8), .val (.int (fvA q1 cq q2 dq)), .val (.int (fvA cq q1 dq q2)), .unset, .unset, .unset, .unset, .unset] [(.ref b6)])) _
    refine XS.aload X11.here hx rfl (hb hby at_74) rfl rfl ?_
    show Steps p.tables e below (T11.setTop (mkF m 76 #[.val (.long q1), .second, .val (.long q2), .second, .val (.long q3), .second, .val (.long q4), .second, .val (.int p5), .val (.long cq), .second, .val (.long dq), .second, .val (.ref b6), .val (.ref b8), .val (.int (fvA q1 cq q2 dq)), .val (.int (fvA cq q1 dq q2)), .unset, .unset, .unset, .unset, .unset] [(.ref b6), (.ref b6)])) _
    refine st12.trans ?_
    show Steps p.tables e below (T12.setTop (mkF m 79 #[.val (.long q1), .second, .val (.long q2), .second, .val (.long q3), .second, .val (.long q4), .second, .val (.int p5), .val (.long cq), .second, .val (.long dq), .second, .val (.ref b6), .val (.ref b8), .val (.int (fvA q1 cq q2 dq)), .val (.int (fvA cq q1 dq q2)), .unset, .unset, .unset, .unset, .unset] [(.int (fvA q1 q1 q2 q2))])) _
    refine XS.istore X12.here hx rfl (hb hby at_79) rfl (l' := #[.val (.long q1), .second, .val (.long q2), .second, .val (.long q3), .second, .val (.long q4), .second, .val (.int p5), .val (.long cq), .second, .val (.long dq), .second, .val (.ref b6), .val (.ref b8), .val (.int (fvA q1 cq q2 dq)), .val (.int (fvA cq q1 dq q2)), .val (.int (fvA q1 q1 q2 q2)), .unset, .unset, .unset, .unset]) rfl ?_
    show Steps p.tables e below (T12.setTop (mkF m 81 #[.val (.long q1), .second, .val (.long q2), .second, .val (.long q3), .second, .val (.long q4), .second, .val (.int p5), .val (.long cq), .second, .val (.long dq), .second, .val (.ref b6), .val (.ref b8), .val (.int (fvA q1 cq q2 dq)), .val (.int (fvA cq q1 dq q2)), .val (.int (fvA q1 q1 q2 q2)), .unset, .unset, .unset, .unset] [])) _
    refine own_post X12 hx hby q1 q2 q3 q4 cq dq p5 _ _ _ b6 b8 rfl rfl rfl fun Ls => ?_
    exact retN X12 hx (t := .boolean) Bd.returns (by simp) (hb hby at_224) hr
  · show QF n0 _ T12.heap _
    exact ⟨rfl, N12, trivial⟩
-- 5. FROM THE CASE'S WORDS TO rm0, AND THE OWED THEOREMS
set_option maxRecDepth 65536 in
set_option maxHeartbeats 40000000 in
theorem comes_1 {Post : Tables → Env → Array Value → State → Outcome → State → Prop} (hpost : ∀ tb e args s v u, (limb_1_1.after args s (.returned v) u = true ∧ limb_1_2.after args s (.returned v) u = true ∧ True) → ReturnedEndW s (.returned v) u (Jvm.fieldLocs frame_1_writes args s ++ Jvm.arrayLocs frame_1_arrays args s ++ Jvm.staticLocs frame_1_statics s) 16 1152 → Post tb e args s (.returned v) u) :
    ArmFor flags0 classFile x code maxLocals ret World_1 tables_1 room_1 Calls_1 rest_1 Pre_1 Post := by
  intro l hfl _ _ p e ha hc hk s m args below hf hA hF happ hP
  obtain ⟨hcalls, hrest, hpre⟩ := hP
  obtain ⟨-, -, -, hnamed, -, -, -, hat⟩ := (Spec.applies_iff hf).mp happ
  obtain ⟨hg, hn⟩ := and_e (Cond.before_iff.mp (show (Jvm.Cond.and given_1 narrow_1).before args s = true from hpre))
  obtain ⟨g13, g14⟩ := and_e hg
  obtain ⟨g15, g16⟩ := and_e g14
  obtain ⟨g17, g18⟩ := and_e g16
  obtain ⟨g19, g20⟩ := and_e g18
  obtain ⟨g21, g22⟩ := and_e g20
  obtain ⟨w0, w1, w2, w3, w4, rfl⟩ : ∃ w0 w1 w2 w3 w4 : Value, args = #[w0, w1, w2, w3, w4] := by
    have hs : args.size = 5 := by simpa [Cond.value, given_1] using g13
    obtain ⟨L⟩ := args
    match L, hs with
    | [w0, w1, w2, w3, w4], _ => exact ⟨w0, w1, w2, w3, w4, rfl⟩
  have hw := fun d (hd : d ∈ tables_1) => atoms_spec (ws := Jvm.Cond.code x code maxLocals ret :: tables_1) hat d (List.mem_cons_of_mem _ hd)
  have hfit : Fit s := fun {y c} hc i hi => by
    obtain ⟨ha, rfl⟩ := Array.getElem?_eq_some_iff.mp hc
    have q := List.all_eq_true.mp ((Array.all_eq_true_iff_forall_mem.mp hF) _ (Array.getElem_mem ha)) i (List.mem_range.mpr hi)
    simpa [Array.getElem?_eq_getElem hi] using q
  obtain ⟨i0, ei0⟩ := isL_v g15
  obtain rfl : w0 = (.long i0) := Option.some.inj ei0
  obtain ⟨i1, ei1⟩ := isL_v g17
  obtain rfl : w1 = (.long i1) := Option.some.inj ei1
  obtain ⟨i2, ei2⟩ := isL_v g19
  obtain rfl : w2 = (.long i2) := Option.some.inj ei2
  obtain ⟨i3, ei3⟩ := isL_v g21
  obtain rfl : w3 = (.long i3) := Option.some.inj ei3
  obtain ⟨i4, ei4⟩ := is_v g22
  obtain rfl : w4 = (.int i4) := Option.some.inj ei4
  obtain ⟨n, o, h1, h2, h3, _, L, rfl, ⟨rfl, N, _⟩, hq⟩ := rm0 l s _ hw tables_1 i0 i1 i2 i3 i4 s.heap s.heap.size (Nat.le_refl _) p e ha hc hk s m _ below hf ((Spec.applies_iff_loose hf).mp happ).1 ⟨rfl, State.Warmed39.refl s, rfl⟩ trivial
  refine ⟨n, _, h1, h2, h3, hpost _ _ _ _ _ _ ⟨Cond.after_iff.mpr rfl, Cond.after_iff.mpr (eq_i res_at (Term.int_eval (1)) rfl), trivial⟩ ⟨hq.1, hq.2.1, hq.2.2.1, (hq.2.2.2.sift fun y hy => Or.inr (N y hy)).mono (by decide) (by decide)⟩⟩
theorem main_1_1 : Claimed_1_1 := comes_1 fun _ _ _ _ _ _ h hF => ⟨h.1, hF⟩
theorem main_1_2 : Claimed_1_2 := comes_1 fun _ _ _ _ _ _ h hF => ⟨h.2.1, hF⟩
end Jvm.Pilot.@@N@@
namespace Jvm.Pilot.@@N@@
open Jvm Jvm.ClassFile Sem Op Lib Jvm.Free Jvm.Stand Jvm.Pilot.@@N@@.Jvm.D
/-! MADE BY PROGRAM (witnessworld.py) out of the Statement's table words and the real class files: 16 classes; the members and pool entries that the words name. The judged class is class 1, her method 1. -/
namespace start1
open Jvm.ClassFile
def u (s : String) : CpInfo := .utf8 (stringToUtf16 s)
/-- a pool by its gaps: so many unusable entries, then the entry; so many at the end -/
def gap : Nat → List CpInfo → List CpInfo
  | 0, r => r
  | n + 1, r => .unusable :: gap n r
def poolList (es : List (Nat × CpInfo)) (last : Nat) : List CpInfo := es.foldr (fun e r => gap e.1 (e.2 :: r)) (gap last [])
def pool (es : List (Nat × CpInfo)) (last : Nat) : Array CpInfo := ⟨poolList es last⟩
def fileOf (pool : Array CpInfo) (this : Nat) (attrs : Array Attribute := #[]) (ms : Array MethodInfo := #[]) (fl : Nat := 33) (sup : Nat := 0) (ifs : Array Nat := #[]) (fds : Array FieldInfo := #[]) : ClassFile where
  minorVersion := 0
  majorVersion := 65
  constantPool := pool
  accessFlags := fl
  thisClass := this
  superClass := sup
  interfaces := ifs
  fields := fds
  methods := ms
  attributes := attrs
def plain (name : String) (sup : Option ClassId) : Class where
  name := name
  kind := .ordinary
  loader := none
  accessFlags := 33
  super := sup
  interfaces := #[]
  cf := none
  fields := #[]
  methods := #[]
  instanceTypes := #[]
  staticTypes := #[]
  resolved := #[]
  callSites := []
  init := .initialized
  statics := none
  mirror := none

def pool0 : Array CpInfo := pool [(5, u "<init>"), (0, u "()V"), (1, .class_ 10), (1, u "java/lang/Object")] 113

def k0c0 : Code := { maxStack := 0, maxLocals := 1, code := object_method_1_code, exceptionTable := #[], attributes := #[] }
def k0m0 : Method := { name := "<init>", desc := "()V", sig := { parameters := [], returnType := none }, accessFlags := 1, code := some k0c0 }
/-- java/lang/Object -/
def k0 : Class := { plain "java/lang/Object" none with
  accessFlags := 33
  interfaces := #[]
  cf := some (fileOf pool0 8 #[] #[{ accessFlags := 1, nameIndex := 5, descriptorIndex := 6, attributes := #[] }] 33 0 #[] #[])
  fields := #[]
  methods := #[k0m0]
  instanceTypes := #[]
  staticTypes := #[]
  resolved := Array.replicate 124 none
  statics := none }

def pool1 : Array CpInfo := pool [(2, .class_ 4), (1, u "java/lang/Object"), (0, u "<init>"), (0, u "()V"), (0, .class_ 8), (0, u "com/example/chongshi/chongshi/DuePage$Cursor"), (0, .methodref 7 10), (0, .nameAndType 5 11), (0, u "(JJ)V"), (0, .methodref 7 13), (0, .nameAndType 14 15), (0, u "isAfter"), (0, u "(Lcom/example/chongshi/chongshi/DuePage$Cursor;)Z"), (0, .class_ 17), (0, u "com/example/chongshi/chongshi/CursorIsAfterPinLaw"), (2, u "law"), (0, u "(JJJJI)Z")] 7

def k1m0 : Method := { name := "<init>", desc := "()V", sig := { parameters := [], returnType := none }, accessFlags := 1, code := none }
def k1c1 : Code := { maxStack := 6, maxLocals := 22, code := code, exceptionTable := #[], attributes := #[] }
def k1m1 : Method := { name := "law", desc := "(JJJJI)Z", sig := { parameters := [.long, .long, .long, .long, .int], returnType := some .boolean }, accessFlags := 9, code := some k1c1 }
/-- com/example/chongshi/chongshi/CursorIsAfterPinLaw -/
def k1 : Class := { plain "com/example/chongshi/chongshi/CursorIsAfterPinLaw" (some 0) with
  accessFlags := 49
  interfaces := #[]
  cf := some (fileOf pool1 16 #[] #[{ accessFlags := 1, nameIndex := 5, descriptorIndex := 6, attributes := #[] }, { accessFlags := 9, nameIndex := 20, descriptorIndex := 21, attributes := #[] }] 49 2 #[] #[])
  fields := #[]
  methods := #[k1m0, k1m1]
  instanceTypes := #[]
  staticTypes := #[]
  resolved := Array.replicate 29 none
  statics := none }

def pool2 : Array CpInfo := pool [(1, .methodref 2 3), (0, .class_ 4), (0, .nameAndType 5 6), (0, u "java/lang/Object"), (0, u "<init>"), (0, u "()V"), (0, .class_ 8), (0, u "java/lang/Record")] 13

def k2c0 : Code := { maxStack := 1, maxLocals := 1, code := jdk_30_method_1_code, exceptionTable := #[], attributes := #[] }
def k2m0 : Method := { name := "<init>", desc := "()V", sig := { parameters := [], returnType := none }, accessFlags := 4, code := some k2c0 }
/-- java/lang/Record -/
def k2 : Class := { plain "java/lang/Record" (some 0) with
  accessFlags := 1057
  interfaces := #[]
  cf := some (fileOf pool2 7 #[] #[{ accessFlags := 4, nameIndex := 5, descriptorIndex := 6, attributes := #[] }] 1057 2 #[] #[])
  fields := #[]
  methods := #[k2m0]
  instanceTypes := #[]
  staticTypes := #[]
  resolved := Array.replicate 22 none
  statics := none }

def pool3 : Array CpInfo := pool [(1, .methodref 2 3), (0, .class_ 4), (0, .nameAndType 5 6), (0, u "java/lang/Record"), (0, u "<init>"), (0, u "()V"), (0, .fieldref 8 9), (0, .class_ 10), (0, .nameAndType 11 12), (0, u "com/example/chongshi/chongshi/DuePage$Cursor"), (0, u "dueMillis"), (0, u "J"), (0, .fieldref 8 14), (0, .nameAndType 15 12), (0, u "id"), (0, .string 17), (0, u "other"), (0, .methodref 19 20), (0, .class_ 21), (0, .nameAndType 22 23), (0, u "java/util/Objects"), (0, u "requireNonNull"), (0, u "(Ljava/lang/Object;Ljava/lang/String;)Ljava/lang/Object;"), (12, u "(JJ)V"), (3, u "isAfter"), (0, u "(Lcom/example/chongshi/chongshi/DuePage$Cursor;)Z"), (8, .class_ 51), (0, u "com/example/chongshi/chongshi/DuePage")] 20

def k3c0 : Code := { maxStack := 3, maxLocals := 5, code := prog_3_method_1_code, exceptionTable := #[], attributes := #[] }
def k3m0 : Method := { name := "<init>", desc := "(JJ)V", sig := { parameters := [.long, .long], returnType := none }, accessFlags := 1, code := some k3c0 }
def k3c1 : Code := { maxStack := 4, maxLocals := 2, code := prog_3_method_2_code, exceptionTable := #[], attributes := #[] }
def k3m1 : Method := { name := "isAfter", desc := "(Lcom/example/chongshi/chongshi/DuePage$Cursor;)Z", sig := { parameters := [(.object "com/example/chongshi/chongshi/DuePage$Cursor")], returnType := some .boolean }, accessFlags := 1, code := some k3c1 }
/-- com/example/chongshi/chongshi/DuePage$Cursor -/
def k3 : Class := { plain "com/example/chongshi/chongshi/DuePage$Cursor" (some 2) with
  accessFlags := 49
  interfaces := #[]
  cf := some (fileOf pool3 8 #[.nestHost 50] #[{ accessFlags := 1, nameIndex := 5, descriptorIndex := 36, attributes := #[] }, { accessFlags := 1, nameIndex := 40, descriptorIndex := 41, attributes := #[] }] 49 2 #[] #[{ accessFlags := 18, nameIndex := 11, descriptorIndex := 12, attributes := #[] }, { accessFlags := 18, nameIndex := 15, descriptorIndex := 12, attributes := #[] }])
  fields := #[{ name := "dueMillis", type := .long, accessFlags := 18, slot := 0, constantValue := 0 }, { name := "id", type := .long, accessFlags := 18, slot := 1, constantValue := 0 }]
  methods := #[k3m0, k3m1]
  instanceTypes := #[.long, .long]
  staticTypes := #[]
  resolved := Array.replicate 72 none
  statics := none }

def pool4 : Array CpInfo := pool [(1, .class_ 2), (0, u "java/io/Serializable"), (0, .class_ 4), (0, u "java/lang/Object")] 2

/-- java/io/Serializable -/
def k4 : Class := { plain "java/io/Serializable" (some 0) with
  accessFlags := 1537
  interfaces := #[]
  cf := some (fileOf pool4 1 #[] #[] 1537 3 #[] #[])
  fields := #[]
  methods := #[]
  instanceTypes := #[]
  staticTypes := #[]
  resolved := Array.replicate 7 none
  statics := none }

def pool5 : Array CpInfo := pool [(1, .class_ 2), (0, u "java/lang/Comparable"), (0, .class_ 4), (0, u "java/lang/Object")] 7

/-- java/lang/Comparable -/
def k5 : Class := { plain "java/lang/Comparable" (some 0) with
  accessFlags := 1537
  interfaces := #[]
  cf := some (fileOf pool5 1 #[] #[] 1537 3 #[] #[])
  fields := #[]
  methods := #[]
  instanceTypes := #[]
  staticTypes := #[]
  resolved := Array.replicate 12 none
  statics := none }

def pool6 : Array CpInfo := pool [(2, .class_ 4), (1, u "java/lang/CharSequence"), (42, .class_ 48), (0, u "java/lang/CharSequence$1CodePointIterator"), (10, .class_ 60), (0, u "java/lang/CharSequence$1CharIterator"), (5, .class_ 67), (0, u "java/lang/Object")] 63

/-- java/lang/CharSequence -/
def k6 : Class := { plain "java/lang/CharSequence" (some 0) with
  accessFlags := 1537
  interfaces := #[]
  cf := some (fileOf pool6 2 #[.nestMembers #[47, 59]] #[] 1537 66 #[] #[])
  fields := #[]
  methods := #[]
  instanceTypes := #[]
  staticTypes := #[]
  resolved := Array.replicate 131 none
  statics := none }

def pool7 : Array CpInfo := pool [(1, .class_ 2), (0, u "java/lang/constant/Constable"), (0, .class_ 4), (0, u "java/lang/Object")] 6

/-- java/lang/constant/Constable -/
def k7 : Class := { plain "java/lang/constant/Constable" (some 0) with
  accessFlags := 1537
  interfaces := #[]
  cf := some (fileOf pool7 1 #[] #[] 1537 3 #[] #[])
  fields := #[]
  methods := #[]
  instanceTypes := #[]
  staticTypes := #[]
  resolved := Array.replicate 11 none
  statics := none }

def pool8 : Array CpInfo := pool [(1, .class_ 2), (0, u "java/lang/constant/ConstantDesc"), (0, .class_ 4), (0, u "java/lang/Object")] 32

/-- java/lang/constant/ConstantDesc -/
def k8 : Class := { plain "java/lang/constant/ConstantDesc" (some 0) with
  accessFlags := 1537
  interfaces := #[]
  cf := some (fileOf pool8 1 #[] #[] 1537 3 #[] #[])
  fields := #[]
  methods := #[]
  instanceTypes := #[]
  staticTypes := #[]
  resolved := Array.replicate 37 none
  statics := none }

def pool9 : Array CpInfo := pool [(2, .class_ 4), (1, u "java/lang/Object"), (0, u "<init>"), (0, u "()V"), (3, .class_ 12), (1, u "java/lang/String"), (0, u "value"), (0, u "[B"), (2, u "coder"), (0, u "B"), (2, u "hash"), (0, u "I"), (2, u "hashIsZero"), (0, u "Z"), (13, u "COMPACT_STRINGS"), (534, .class_ 576), (0, u "java/lang/CharSequence"), (22, u "CASE_INSENSITIVE_ORDER"), (0, u "Ljava/util/Comparator;"), (500, u "serialPersistentFields"), (0, u "[Ljava/io/ObjectStreamField;"), (0, .class_ 1104), (0, u "java/lang/String$CaseInsensitiveComparator"), (1, .class_ 1107), (0, u "java/io/Serializable"), (0, .class_ 1109), (0, u "java/lang/Comparable"), (0, .class_ 1111), (0, u "java/lang/constant/Constable"), (0, .class_ 1113), (0, u "java/lang/constant/ConstantDesc"), (2, u "serialVersionUID"), (0, u "J"), (3, u "REPL"), (0, u "C"), (2, u "LATIN1"), (1, u "UTF16")] 323

def k9m0 : Method := { name := "<init>", desc := "()V", sig := { parameters := [], returnType := none }, accessFlags := 1, code := none }
/-- java/lang/String -/
def k9 : Class := { plain "java/lang/String" (some 0) with
  accessFlags := 49
  interfaces := #[4, 5, 6, 7, 8]
  cf := some (fileOf pool9 10 #[.nestMembers #[1103]] #[{ accessFlags := 1, nameIndex := 5, descriptorIndex := 6, attributes := #[] }] 49 2 #[1106, 1108, 575, 1110, 1112] #[{ accessFlags := 18, nameIndex := 13, descriptorIndex := 14, attributes := #[] }, { accessFlags := 18, nameIndex := 17, descriptorIndex := 18, attributes := #[] }, { accessFlags := 2, nameIndex := 21, descriptorIndex := 22, attributes := #[] }, { accessFlags := 2, nameIndex := 25, descriptorIndex := 26, attributes := #[] }, { accessFlags := 26, nameIndex := 1116, descriptorIndex := 1117, attributes := #[] }, { accessFlags := 24, nameIndex := 40, descriptorIndex := 26, attributes := #[] }, { accessFlags := 26, nameIndex := 1101, descriptorIndex := 1102, attributes := #[] }, { accessFlags := 26, nameIndex := 1121, descriptorIndex := 1122, attributes := #[] }, { accessFlags := 25, nameIndex := 599, descriptorIndex := 600, attributes := #[] }, { accessFlags := 24, nameIndex := 1125, descriptorIndex := 18, attributes := #[] }, { accessFlags := 24, nameIndex := 1127, descriptorIndex := 18, attributes := #[] }])
  fields := #[{ name := "value", type := (.array .byte), accessFlags := 18, slot := 0, constantValue := 0 }, { name := "coder", type := .byte, accessFlags := 18, slot := 1, constantValue := 0 }, { name := "hash", type := .int, accessFlags := 2, slot := 2, constantValue := 0 }, { name := "hashIsZero", type := .boolean, accessFlags := 2, slot := 3, constantValue := 0 }, { name := "serialVersionUID", type := .long, accessFlags := 26, slot := 0, constantValue := 0 }, { name := "COMPACT_STRINGS", type := .boolean, accessFlags := 24, slot := 1, constantValue := 0 }, { name := "serialPersistentFields", type := (.array (.object "java/io/ObjectStreamField")), accessFlags := 26, slot := 2, constantValue := 0 }, { name := "REPL", type := .char, accessFlags := 26, slot := 3, constantValue := 0 }, { name := "CASE_INSENSITIVE_ORDER", type := (.object "java/util/Comparator"), accessFlags := 25, slot := 4, constantValue := 0 }, { name := "LATIN1", type := .byte, accessFlags := 24, slot := 5, constantValue := 0 }, { name := "UTF16", type := .byte, accessFlags := 24, slot := 6, constantValue := 0 }]
  methods := #[k9m0]
  instanceTypes := #[(.array .byte), .byte, .int, .boolean]
  staticTypes := #[.long, .boolean, (.array (.object "java/io/ObjectStreamField")), .char, (.object "java/util/Comparator"), .byte, .byte]
  resolved := Array.replicate 1451 none
  statics := none }

def pool10 : Array CpInfo := pool [(2, .class_ 4), (1, u "java/lang/Object"), (0, u "<init>"), (0, u "()V"), (35, .class_ 44), (1, u "java/util/Objects"), (0, u "requireNonNull"), (48, u "(Ljava/lang/Object;Ljava/lang/String;)Ljava/lang/Object;")] 89

def k10m0 : Method := { name := "<init>", desc := "()V", sig := { parameters := [], returnType := none }, accessFlags := 2, code := none }
def k10c1 : Code := { maxStack := 3, maxLocals := 2, code := jdk_31_method_11_code, exceptionTable := #[], attributes := #[] }
def k10m1 : Method := { name := "requireNonNull", desc := "(Ljava/lang/Object;Ljava/lang/String;)Ljava/lang/Object;", sig := { parameters := [(.object "java/lang/Object"), (.object "java/lang/String")], returnType := some (.object "java/lang/Object") }, accessFlags := 9, code := some k10c1 }
/-- java/util/Objects -/
def k10 : Class := { plain "java/util/Objects" (some 0) with
  accessFlags := 49
  interfaces := #[]
  cf := some (fileOf pool10 42 #[] #[{ accessFlags := 2, nameIndex := 5, descriptorIndex := 6, attributes := #[] }, { accessFlags := 9, nameIndex := 45, descriptorIndex := 94, attributes := #[] }] 49 2 #[] #[])
  fields := #[]
  methods := #[k10m0, k10m1]
  instanceTypes := #[]
  staticTypes := #[]
  resolved := Array.replicate 184 none
  statics := none }

def pool11 : Array CpInfo := pool [(1, u "java/lang/Cloneable"), (0, .class_ 1), (0, u "java/lang/Object"), (0, .class_ 3)] 3

/-- java/lang/Cloneable -/
def k11 : Class := { plain "java/lang/Cloneable" (some 0) with
  accessFlags := 1537
  interfaces := #[]
  cf := some (fileOf pool11 2 #[] #[] 1537 4 #[] #[])
  fields := #[]
  methods := #[]
  instanceTypes := #[]
  staticTypes := #[]
  resolved := Array.replicate 8 none
  statics := none }

/-- the primitive byte -/
def k12 : Class := { plain "byte" none with kind := .primitive 'B', accessFlags := 0x411 }
/-- [B -/
def k13 : Class := { plain "[B" (some 0) with kind := .array 12 .byte, interfaces := #[11, 4], accessFlags := 1041 }

/-- the primitive int -/
def k14 : Class := { plain "int" none with kind := .primitive 'I', accessFlags := 0x411 }
/-- [I -/
def k15 : Class := { plain "[I" (some 0) with kind := .array 14 .int, interfaces := #[11, 4], accessFlags := 1041 }

def heap : Heap := #[]
def classes : Array Class := #[k0, k1, k2, k3, k4, k5, k6, k7, k8, k9, k10, k11, k12, k13, k14, k15]
def interned : List (Array UInt16 × Addr) := []
def slotsUsed : Nat := 0
def theMethod : MethodId := ⟨1, 1⟩
def args0 : Array Value := #[.long 5, .long 300, .long 2, .long 70, .int 3]
def aboutOver (below : List Frame) : State where
  vm := { classes := classes, interned := interned.toArray }
  heap := heap
  slotsUsed := slotsUsed
  threads := #[{ frames := .invoking theMethod args0 :: below }]
def below0 : List Frame := [.native { method := ⟨0, 0⟩, args := #[] }]
def about1 : State := aboutOver below0
def p0 : Program := .bare "" "" ""
def e0 : Env := launch0.env 0 0 0
theorem w_frames : about1.frames = Frame.invoking theMethod args0 :: below0 := rfl
set_option maxRecDepth 65536 in
theorem w_args : argsFit about1.vm theMethod args0 = true := by decide +kernel
set_option maxRecDepth 65536 in
theorem w_heap : heapFits about1 = true := by decide +kernel
set_option maxRecDepth 65536 in
theorem w_runnable : about1.curStatus? = some .runnable := by decide +kernel
set_option maxRecDepth 65536 in
theorem w_alone : about1.alone = true := by decide +kernel
set_option maxRecDepth 65536 in
theorem w_named : about1.methodNamed? x = some theMethod := by decide +kernel
set_option maxRecDepth 65536 in
theorem w_hears : about1.hears theMethod below0 = true := by decide +kernel
set_option maxRecDepth 65536 in
theorem w_ripe : about1.ripe theMethod args0 below0 = true := by decide +kernel
theorem w_running : about1.status = .running := rfl
set_option maxRecDepth 65536 in
theorem w_room : about1.hasRoom e0.platform room_1 = true :=
  launch0.hasRoom_least _ room_1 (by decide +kernel) (by decide +kernel) (by decide +kernel) (by decide +kernel) (by decide +kernel) (by decide +kernel)
theorem allAtoms_all (ts : List Jvm.Cond) (a : Array Jvm.Value) (st : Jvm.State) : (allAtoms ts).before a st = ts.all (fun c => c.before a st) := by
  induction ts with
  | nil => rfl
  | cons c t ih =>
    show (Jvm.Cond.and c (allAtoms t)).before a st = _
    rw [Jvm.Cond.before_and, ih, List.all_cons]
def words1 : List Jvm.Cond := Jvm.Cond.code x code maxLocals ret :: tables_1
/-- a 'code' word, met by the world's own term for the bytes: nothing is compared byte by byte -/
theorem code_word {y : MethodName} {bytes : ByteArray} {mx : Nat} {rt : Option FieldType} {a : Array Value} {s : State} {m : MethodId} {meth : Method} {c : Code} (h1 : s.methodNamed? y = some m) (h2 : s.vm.method? m = some meth) (h3 : meth.code = some c) (h4 : c.code = bytes)
    (h5 : (c.maxLocals == mx && c.exceptionTable.isEmpty && decide (c.maxStack ≤ mostOperands) && decide (meth.sig.returnType = rt) && !meth.locks && decide (parseMethodDescriptor y.desc = some meth.sig)) = true) : (Jvm.Cond.code y bytes mx rt).before a s = true := by
  simp only [Bool.and_eq_true, beq_iff_eq, Bool.not_eq_true', decide_eq_true_eq] at h5
  obtain ⟨⟨⟨⟨⟨g1, g2⟩, g3⟩, g4⟩, g5⟩, g6⟩ := h5
  simp [Cond.before, Cond.holds, Cond.value, h1, h2, h3, h4, g1, g2, g3, g4, g5, g6]
def isCode : Jvm.Cond → Bool
  | .code _ _ _ _ => true
  | _ => false
theorem all_split {L : List Jvm.Cond} {P : Jvm.Cond → Bool} (h1 : L.all (fun c => isCode c || P c) = true) (h2 : ∀ c ∈ L.filter isCode, P c = true) : L.all P = true := by
  refine List.all_eq_true.mpr fun c hc => ?_
  have h := List.all_eq_true.mp h1 c hc
  rcases Bool.eq_false_or_eq_true (isCode c) with hi | hi
  · exact h2 c (List.mem_filter.mpr ⟨hc, hi⟩)
  · simpa [hi] using h
set_option maxRecDepth 65536 in
theorem w_c0 : (Jvm.Cond.code x code maxLocals ret).before args0 about1 = true := code_word (m := ⟨1, 1⟩) (meth := k1m1) (c := k1c1) (by decide +kernel) rfl rfl rfl (by decide +kernel)
set_option maxRecDepth 65536 in
theorem w_c1 : (Jvm.Cond.code ({ cls := "com/example/chongshi/chongshi/DuePage$Cursor", name := "<init>", desc := "(JJ)V" } : Jvm.MethodName) prog_3_method_1_code (5 : Nat) (Option.none : Option Jvm.ClassFile.FieldType)).before args0 about1 = true := code_word (m := ⟨3, 0⟩) (meth := k3m0) (c := k3c0) (by decide +kernel) rfl rfl rfl (by decide +kernel)
set_option maxRecDepth 65536 in
theorem w_c2 : (Jvm.Cond.code ({ cls := "java/lang/Record", name := "<init>", desc := "()V" } : Jvm.MethodName) jdk_30_method_1_code (1 : Nat) (Option.none : Option Jvm.ClassFile.FieldType)).before args0 about1 = true := code_word (m := ⟨2, 0⟩) (meth := k2m0) (c := k2c0) (by decide +kernel) rfl rfl rfl (by decide +kernel)
set_option maxRecDepth 65536 in
theorem w_c3 : (Jvm.Cond.code ({ cls := "java/lang/Object", name := "<init>", desc := "()V" } : Jvm.MethodName) object_method_1_code (1 : Nat) (Option.none : Option Jvm.ClassFile.FieldType)).before args0 about1 = true := code_word (m := ⟨0, 0⟩) (meth := k0m0) (c := k0c0) (by decide +kernel) rfl rfl rfl (by decide +kernel)
set_option maxRecDepth 65536 in
theorem w_c4 : (Jvm.Cond.code ({ cls := "com/example/chongshi/chongshi/DuePage$Cursor", name := "isAfter", desc := "(Lcom/example/chongshi/chongshi/DuePage$Cursor;)Z" } : Jvm.MethodName) prog_3_method_2_code (2 : Nat) (Option.some Jvm.ClassFile.FieldType.boolean)).before args0 about1 = true := code_word (m := ⟨3, 1⟩) (meth := k3m1) (c := k3c1) (by decide +kernel) rfl rfl rfl (by decide +kernel)
set_option maxRecDepth 65536 in
theorem w_c5 : (Jvm.Cond.code ({ cls := "java/util/Objects", name := "requireNonNull", desc := "(Ljava/lang/Object;Ljava/lang/String;)Ljava/lang/Object;" } : Jvm.MethodName) jdk_31_method_11_code (2 : Nat) (Option.some (Jvm.ClassFile.FieldType.object "java/lang/Object"))).before args0 about1 = true := code_word (m := ⟨10, 1⟩) (meth := k10m1) (c := k10c1) (by decide +kernel) rfl rfl rfl (by decide +kernel)
def codes1 : List Jvm.Cond := [Jvm.Cond.code x code maxLocals ret, Jvm.Cond.code ({ cls := "com/example/chongshi/chongshi/DuePage$Cursor", name := "<init>", desc := "(JJ)V" } : Jvm.MethodName) prog_3_method_1_code (5 : Nat) (Option.none : Option Jvm.ClassFile.FieldType), Jvm.Cond.code ({ cls := "java/lang/Record", name := "<init>", desc := "()V" } : Jvm.MethodName) jdk_30_method_1_code (1 : Nat) (Option.none : Option Jvm.ClassFile.FieldType), Jvm.Cond.code ({ cls := "java/lang/Object", name := "<init>", desc := "()V" } : Jvm.MethodName) object_method_1_code (1 : Nat) (Option.none : Option Jvm.ClassFile.FieldType), Jvm.Cond.code ({ cls := "com/example/chongshi/chongshi/DuePage$Cursor", name := "isAfter", desc := "(Lcom/example/chongshi/chongshi/DuePage$Cursor;)Z" } : Jvm.MethodName) prog_3_method_2_code (2 : Nat) (Option.some Jvm.ClassFile.FieldType.boolean), Jvm.Cond.code ({ cls := "java/util/Objects", name := "requireNonNull", desc := "(Ljava/lang/Object;Ljava/lang/String;)Ljava/lang/Object;" } : Jvm.MethodName) jdk_31_method_11_code (2 : Nat) (Option.some (Jvm.ClassFile.FieldType.object "java/lang/Object"))]
set_option maxRecDepth 65536 in
theorem codes_eq : words1.filter isCode = codes1 := rfl
theorem w_codes : ∀ c ∈ words1.filter isCode, c.before args0 about1 = true := by
  rw [codes_eq]
  intro c hc
  simp only [codes1, List.mem_cons, List.not_mem_nil, or_false] at hc
  rcases hc with rfl | rfl | rfl | rfl | rfl | rfl
  · exact w_c0
  · exact w_c1
  · exact w_c2
  · exact w_c3
  · exact w_c4
  · exact w_c5
set_option maxRecDepth 65536 in
theorem w_t1 : (words1.take 24).all (fun c => isCode c || c.before args0 about1) = true := by decide +kernel
set_option maxRecDepth 65536 in
theorem w_t2 : (words1.drop 24).all (fun c => isCode c || c.before args0 about1) = true := by decide +kernel
theorem w_tables : (allAtoms (Jvm.Cond.code x code maxLocals ret :: tables_1)).before args0 about1 = true := by
  rw [allAtoms_all]
  show words1.all (fun c => c.before args0 about1) = true
  refine all_split ?_ w_codes
  rw [← List.take_append_drop 24 words1, List.all_append, w_t1, w_t2]
  rfl
set_option maxRecDepth 65536 in
theorem w_case : (Jvm.Cond.and given_1 narrow_1).before args0 about1 = true := by decide +kernel
theorem w_applies : (headSpec (Jvm.Cond.code x code maxLocals ret :: tables_1) room_1).applies x e0.platform about1 = true :=
  (Spec.applies_iff w_frames).mpr ⟨w_running, w_runnable, w_alone, w_named, w_hears, w_ripe, w_room, w_tables⟩
theorem atStart : AtStart classFile x code maxLocals ret World_1 tables_1 room_1 Calls_1 rest_1 Pre_1 launch0 p0 e0 about1 theMethod args0 below0 :=
  ⟨lists_1, trivial, launch0.admits_env _ _ _, launch0.least_env, fairChoices_fair.cas, fairChoices_fair.clock, w_frames, w_args, w_heap, w_applies, trivial, trivial, w_case⟩
end start1
theorem witness_1 : WitnessClaimed_1 := ⟨start1.p0, start1.e0, start1.about1, start1.theMethod, start1.args0, start1.below0, start1.atStart⟩
end Jvm.Pilot.@@N@@
