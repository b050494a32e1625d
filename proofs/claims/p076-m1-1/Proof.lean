import JvmDerived
import JvmDerived.Pilot.@@N@@Statement
import JvmDerived.Pilot.@@N@@Code
set_option linter.unusedVariables false
set_option linter.unusedSimpArgs false
namespace Jvm.RoadKit
open Sem ClassFile Op Lib Jvm.Stand Jvm.Free Jvm.LawKit
section New
variable {p : Program} {l : Launch} {e : Env} {R : Room} {s : State} {m : MethodId} {args : Array Value} {below : List Frame} {meth : Method} {c : Code} {T : State} {locs : List Loc} {cells slots : Nat}
theorem retI (X : Stand p l e R s m args below meth c T locs cells slots) (hx : p.tables.exec = Jvm.exec) {pc : Nat} {Ls : Array Slot} {z : Int32} {rest : List Value} (hret : meth.sig.returnType = some .int) (hd : decode c.code pc = .ok (.ireturn, 1)) {fs : List Frame}
    (hl : ∀ (f : JFrame) (acts : List Action), f.method = m → f.locked = none → f.entered = [] → (doReturn e (T.setTop f) acts (some (.int z))).1 = T.setFrames fs) : Steps p.tables e below (T.setTop (mkF m pc Ls (.int z :: rest))) (T.setFrames fs) := by
  have hm' : T.vm.method? m = some meth := X.method'
  have hn : narrow .int (.int z) = .int z := rfl
  show Steps p.tables e below (T.setTop { method := m, pc := pc, locals := Ls, stack := _ :: rest, locked := none }) _
  jvm_step X.here [X.here.top, hx, hd, hm', hret, hn]
  first | (intro acts; rw [hl _ acts rfl rfl rfl]) | rw [hl _ _ rfl rfl rfl]
  exact Steps.refl _
theorem retJ (X : Stand p l e R s m args below meth c T locs cells slots) (hx : p.tables.exec = Jvm.exec) {pc : Nat} {Ls : Array Slot} {z : Int64} {rest : List Value} (hret : meth.sig.returnType = some .long) (hd : decode c.code pc = .ok (.lreturn, 1)) {fs : List Frame}
    (hl : ∀ (f : JFrame) (acts : List Action), f.method = m → f.locked = none → f.entered = [] → (doReturn e (T.setTop f) acts (some (.long z))).1 = T.setFrames fs) : Steps p.tables e below (T.setTop (mkF m pc Ls (.long z :: rest))) (T.setFrames fs) := by
  have hm' : T.vm.method? m = some meth := X.method'
  have hn : narrow .long (.long z) = .long z := rfl
  show Steps p.tables e below (T.setTop { method := m, pc := pc, locals := Ls, stack := _ :: rest, locked := none }) _
  jvm_step X.here [X.here.top, hx, hd, hm', hret, hn]
  first | (intro acts; rw [hl _ acts rfl rfl rfl]) | rw [hl _ _ rfl rfl rfl]
  exact Steps.refl _
end New
end Jvm.RoadKit
namespace Jvm.Pilot.@@N@@
open Jvm Jvm.ClassFile Sem Op Lib Jvm.Free Jvm.Stand Jvm.LawKit Jvm.RoadKit Bundle Jvm.Pilot.@@N@@.Jvm.D
def QV (w : Value) (h0 : Heap) (n0 : Nat) (v : Option Value) (h : Heap) (L : List Loc) : Prop := v = some w ∧ Fr n0 L ∧ h = h0
def QN (h0 : Heap) (n0 : Nat) (v : Option Value) (h : Heap) (L : List Loc) : Prop := v = none ∧ Fr n0 L ∧ h = h0
/-- an array that 'make' makes: its length and its first two places -/
def Mk (Z : State) (h : Heap) (b : Addr) (x n : Int32) : Prop := ∃ c : Cell, Arr Z h b c .byte ∧ c.slots.size = n.toNatClampNeg ∧ ¬ n < 0 ∧ ((0 : Int32) < n → c.slots[((0 : Int32)).toNatClampNeg]? = some (.int (x.toInt8.toInt32))) ∧ ((1 : Int32) < n → c.slots[((1 : Int32)).toNatClampNeg]? = some (.int ((x >>> ((8 : Int32) &&& 31)).toInt8.toInt32)))
theorem Mk.lt {Z : State} {h : Heap} {b : Addr} {x n : Int32} (M : Mk Z h b x n) : b < h.size := by obtain ⟨c, A, -⟩ := M; exact A.lt
theorem Mk.ext {Z : State} {h h' : Heap} {b : Addr} {x n : Int32} (M : Mk Z h b x n) (E : Ext h h') : Mk Z h' b x n := by obtain ⟨c, A, r⟩ := M; exact ⟨c, A.ext E, r⟩
theorem Mk.other {Z : State} {h h' : Heap} {a b : Addr} {x n : Int32} {sl : Nat} {v : Value} (M : Mk Z h b x n) (W : Wr h h' a sl v) (q : b ≠ a) : Mk Z h' b x n := by obtain ⟨c, A, r⟩ := M; exact ⟨c, A.other W q, r⟩
theorem Mk.keep {Z : State} {h h' : Heap} {b : Addr} {x n : Int32} {ws : List Addr} (M : Mk Z h b x n) (K : Keep h h' ws) (q : b ∉ ws) : Mk Z h' b x n := by obtain ⟨c, A, r⟩ := M; exact ⟨c, ⟨K.2.1 b c A.1 q, A.2⟩, r⟩
theorem own_b8 (x : Int32) : nar .byte (x.toInt8.toInt32) = x.toInt8.toInt32 := by show (x.toInt8.toInt32).toInt8.toInt32 = _; rw [Int8.toInt8_toInt32]
theorem Mk.of {Z : State} {h : Heap} {b : Addr} {k : ClassId} {x n : Int32} {vs : List Value} {dv : Value} (V : Arv Z h b k .byte n vs dv) (u0 : (0 : Int32) < n → vs.getD 0 dv = .int (x.toInt8.toInt32)) (u1 : (1 : Int32) < n → vs.getD 1 dv = .int ((x >>> ((8 : Int32) &&& 31)).toInt8.toInt32)) : Mk Z h b x n := by
  obtain ⟨c, A, -, S, N, H, -⟩ := V
  exact ⟨c, A, S, N, fun q => H.at (inb_of S ⟨by decide, q⟩) (u0 q), fun q => H.at (inb_of S ⟨by decide, q⟩) (u1 q)⟩
def QM (Z : State) (x n : Int32) (h0 : Heap) (n0 : Nat) (v : Option Value) (h : Heap) (L : List Loc) : Prop := ∃ b, v = some (.ref b) ∧ Fr n0 L ∧ b = h0.size ∧ Keep h0 h [] ∧ Mk Z h b x n
theorem d1_0 : decode jdk_29_method_69_code 0 = .ok (.iload_n 0, 1) := by decide +kernel
theorem d1_1 : decode jdk_29_method_69_code 1 = .ok (.iload_n 1, 1) := by decide +kernel
theorem d1_2 : decode jdk_29_method_69_code 2 = .ok (.if_icmp .gt 7, 3) := by decide +kernel
theorem d1_9 : decode jdk_29_method_69_code 9 = .ok (.iload_n 1, 1) := by decide +kernel
theorem d1_10 : decode jdk_29_method_69_code 10 = .ok (.ireturn, 1) := by decide +kernel
theorem ef_1 (m : MethodId) (x0 : Int32) (x1 : Int32) : entryFrame m #[(.int x0), (.int x1)] 2 = mkF m 0 #[.val (.int x0), .val (.int x1)] [] := by first | (simp [entryFrame, mkF, argsToLocals, Value.category]; done) | rfl
theorem d1_5 : decode jdk_29_method_69_code 5 = .ok (.iload_n 0, 1) := by decide +kernel
theorem d1_6 : decode jdk_29_method_69_code 6 = .ok (.goto 4, 3) := by decide +kernel
set_option maxRecDepth 65536 in
set_option maxHeartbeats 40000000 in
theorem rm1_t (l : Launch) (Z : State) (a0 : Array Value) (hw : ∀ d ∈ tables_1, d.before a0 Z = true) (ws : List Jvm.Cond) (p1 : Int32) (p2 : Int32) (h0 : Heap) (n0 : Nat) (Z0 : n0 ≤ h0.size) (hc2 : p2 < p1) :
    MetFree l (⟨"java/lang/Math", "min", "(II)I"⟩ : MethodName) (head1 (Jvm.Cond.code (⟨"java/lang/Math", "min", "(II)I"⟩ : MethodName) jdk_29_method_69_code 2 (some .int) :: ws) ({ frames := 0, cells := 0, slots := 0, locals := 0 } : Room)) (fun a U => a = #[(.int p1), (.int p2)] ∧ Z.Warmed39 U.vm ∧ U.heap = h0) (fun _ _ _ _ _ => True) (fun _ U o U' => ∃ v L, o = .returned v ∧ QV (.int p2) h0 n0 v U'.heap L ∧ FrameEnd U o U' L ({ frames := 0, cells := 0, slots := 0, locals := 0 } : Room).cells ({ frames := 0, cells := 0, slots := 0, locals := 0 } : Room).slots) := by
  refine MetFree.of_bodySF (Jvm.Free.JP.mathPlain rfl (by decide +kernel)) hisR ?_
  intro p e s m args below meth c s₁ Bd hml0 hP hK
  obtain ⟨rfl, hZ, hh⟩ := hP
  have hx := Bd.exec
  have hby := Bd.bytes
  have hml : c.maxLocals = 2 := hml0
  have hown : s.vm.findClass "java/lang/Math" = some m.cls := findClass_of_methodNamed Bd.named
  have hnm := (name_of_methodNamed Bd.named Bd.method).1
  have X0 : Stand p l e ({ frames := 0, cells := 0, slots := 0, locals := 0 } : Room) s m #[(.int p1), (.int p2)] below meth c s₁ [] 0 0 := Stand.of_body Bd
  have e0 : s₁.heap = h0 := by rw [← hh, Bd.state]; rfl
  have N0 := Fr.nil n0
  have pre0 : ∀ t, Steps p.tables e below (s₁.setTop (mkF m 0 #[.val (.int p1), .val (.int p2)] [])) t → Steps p.tables e below (s₁.setTop (entryFrame m #[(.int p1), (.int p2)] 2)) t := fun t k => castTop (ef_1 m p1 p2) k
  -- 3. LAWS
  obtain ⟨fs, hr, hrun, hended, hW, hsame⟩ := X0.leave (v := some (.int p2)) (fun h => by rw [Bd.returns] at h; cases h)
  refine ⟨_, _, pre0 _ ?_, hrun, hended, _, _, rfl, ?_, ⟨_, rfl⟩, hW, hsame.mono (by decide) (by decide)⟩
  -- 4. STEPS
  · show Steps p.tables e below (s₁.setTop (mkF m 0 #[.val (.int p1), .val (.int p2)] [])) _
    refine XS.iloadN X0.here hx rfl (hb hby d1_0) rfl ?_
    show Steps p.tables e below (s₁.setTop (mkF m 1 #[.val (.int p1), .val (.int p2)] [(.int p1)])) _
    refine XS.iloadN X0.here hx rfl (hb hby d1_1) rfl ?_
    show Steps p.tables e below (s₁.setTop (mkF m 2 #[.val (.int p1), .val (.int p2)] [(.int p2), (.int p1)])) _
    refine XS.icmpYes X0.here hx rfl (pc0 := 2) (pc' := 9) rfl (hb hby d1_2) rfl (tlt hc2).2.2.1 (by decide) (by decide) ?_
    show Steps p.tables e below (s₁.setTop (mkF m 9 #[.val (.int p1), .val (.int p2)] [])) _
    refine XS.iloadN X0.here hx rfl (hb hby d1_9) rfl ?_
    show Steps p.tables e below (s₁.setTop (mkF m 10 #[.val (.int p1), .val (.int p2)] [(.int p2)])) _
    exact retI X0 hx Bd.returns (hb hby d1_10) hr      -- retI stands in the head ('lawwalk <made dir>' prints it)
  · show QV (.int p2) h0 n0 _ s₁.heap _
    rw [e0]
    exact ⟨rfl, N0, rfl⟩
set_option maxRecDepth 65536 in
set_option maxHeartbeats 40000000 in
theorem rm1_f (l : Launch) (Z : State) (a0 : Array Value) (hw : ∀ d ∈ tables_1, d.before a0 Z = true) (ws : List Jvm.Cond) (p1 : Int32) (p2 : Int32) (h0 : Heap) (n0 : Nat) (Z0 : n0 ≤ h0.size) (hc2 : ¬ (p2 < p1)) :
    MetFree l (⟨"java/lang/Math", "min", "(II)I"⟩ : MethodName) (head1 (Jvm.Cond.code (⟨"java/lang/Math", "min", "(II)I"⟩ : MethodName) jdk_29_method_69_code 2 (some .int) :: ws) ({ frames := 0, cells := 0, slots := 0, locals := 0 } : Room)) (fun a U => a = #[(.int p1), (.int p2)] ∧ Z.Warmed39 U.vm ∧ U.heap = h0) (fun _ _ _ _ _ => True) (fun _ U o U' => ∃ v L, o = .returned v ∧ QV (.int p1) h0 n0 v U'.heap L ∧ FrameEnd U o U' L ({ frames := 0, cells := 0, slots := 0, locals := 0 } : Room).cells ({ frames := 0, cells := 0, slots := 0, locals := 0 } : Room).slots) := by
  refine MetFree.of_bodySF (Jvm.Free.JP.mathPlain rfl (by decide +kernel)) hisR ?_
  intro p e s m args below meth c s₁ Bd hml0 hP hK
  obtain ⟨rfl, hZ, hh⟩ := hP
  have hx := Bd.exec
  have hby := Bd.bytes
  have hml : c.maxLocals = 2 := hml0
  have hown : s.vm.findClass "java/lang/Math" = some m.cls := findClass_of_methodNamed Bd.named
  have hnm := (name_of_methodNamed Bd.named Bd.method).1
  have X0 : Stand p l e ({ frames := 0, cells := 0, slots := 0, locals := 0 } : Room) s m #[(.int p1), (.int p2)] below meth c s₁ [] 0 0 := Stand.of_body Bd
  have e0 : s₁.heap = h0 := by rw [← hh, Bd.state]; rfl
  have N0 := Fr.nil n0
  have pre0 : ∀ t, Steps p.tables e below (s₁.setTop (mkF m 0 #[.val (.int p1), .val (.int p2)] [])) t → Steps p.tables e below (s₁.setTop (entryFrame m #[(.int p1), (.int p2)] 2)) t := fun t k => castTop (ef_1 m p1 p2) k
  -- 3. LAWS
  obtain ⟨fs, hr, hrun, hended, hW, hsame⟩ := X0.leave (v := some (.int p1)) (fun h => by rw [Bd.returns] at h; cases h)
  refine ⟨_, _, pre0 _ ?_, hrun, hended, _, _, rfl, ?_, ⟨_, rfl⟩, hW, hsame.mono (by decide) (by decide)⟩
  -- 4. STEPS
  · show Steps p.tables e below (s₁.setTop (mkF m 0 #[.val (.int p1), .val (.int p2)] [])) _
    refine XS.iloadN X0.here hx rfl (hb hby d1_0) rfl ?_
    show Steps p.tables e below (s₁.setTop (mkF m 1 #[.val (.int p1), .val (.int p2)] [(.int p1)])) _
    refine XS.iloadN X0.here hx rfl (hb hby d1_1) rfl ?_
    show Steps p.tables e below (s₁.setTop (mkF m 2 #[.val (.int p1), .val (.int p2)] [(.int p2), (.int p1)])) _
    refine XS.icmpNo X0.here hx rfl (hb hby d1_2) rfl (flt hc2).2.2.1 ?_
    show Steps p.tables e below (s₁.setTop (mkF m 5 #[.val (.int p1), .val (.int p2)] [])) _
    refine XS.iloadN X0.here hx rfl (hb hby d1_5) rfl ?_
    show Steps p.tables e below (s₁.setTop (mkF m 6 #[.val (.int p1), .val (.int p2)] [(.int p1)])) _
    refine XS.goto X0.here hx rfl (pc0 := 6) (pc' := 10) rfl (hb hby d1_6) (by decide) (by decide) ?_
    show Steps p.tables e below (s₁.setTop (mkF m 10 #[.val (.int p1), .val (.int p2)] [(.int p1)])) _
    exact retI X0 hx Bd.returns (hb hby d1_10) hr      -- retI stands in the head ('lawwalk <made dir>' prints it)
  · show QV (.int p1) h0 n0 _ s₁.heap _
    rw [e0]
    exact ⟨rfl, N0, rfl⟩
def fv1 (p1 : Int32) (p2 : Int32) : Int32 := if p2 < p1 then p2 else p1
set_option maxRecDepth 65536 in
set_option maxHeartbeats 40000000 in
theorem rm1 (l : Launch) (Z : State) (a0 : Array Value) (hw : ∀ d ∈ tables_1, d.before a0 Z = true) (ws : List Jvm.Cond) (p1 : Int32) (p2 : Int32) (h0 : Heap) (n0 : Nat) (Z0 : n0 ≤ h0.size) :
    MetFree l (⟨"java/lang/Math", "min", "(II)I"⟩ : MethodName) (head1 (Jvm.Cond.code (⟨"java/lang/Math", "min", "(II)I"⟩ : MethodName) jdk_29_method_69_code 2 (some .int) :: ws) ({ frames := 0, cells := 0, slots := 0, locals := 0 } : Room)) (fun a U => a = #[(.int p1), (.int p2)] ∧ Z.Warmed39 U.vm ∧ U.heap = h0) (fun _ _ _ _ _ => True) (fun _ U o U' => ∃ v L, o = .returned v ∧ QV (.int (fv1 p1 p2)) h0 n0 v U'.heap L ∧ FrameEnd U o U' L ({ frames := 0, cells := 0, slots := 0, locals := 0 } : Room).cells ({ frames := 0, cells := 0, slots := 0, locals := 0 } : Room).slots) := by
  unfold fv1
  by_cases hc2 : p2 < p1
  · rw [if_pos hc2]
    exact rm1_t l Z a0 hw ws p1 p2 h0 n0 Z0 hc2
  · rw [if_neg hc2]
    exact rm1_f l Z a0 hw ws p1 p2 h0 n0 Z0 hc2
theorem d2_0 : decode method_2_code 0 = .ok (.iload_n 1, 1) := by decide +kernel
theorem d2_1 : decode method_2_code 1 = .ok (.newarray .byte, 2) := by decide +kernel
theorem d2_3 : decode method_2_code 3 = .ok (.astore_n 2, 1) := by decide +kernel
theorem d2_4 : decode method_2_code 4 = .ok (.iload_n 1, 1) := by decide +kernel
theorem d2_5 : decode method_2_code 5 = .ok (.ifCond .le 8, 3) := by decide +kernel
theorem d2_13 : decode method_2_code 13 = .ok (.iload_n 1, 1) := by decide +kernel
theorem d2_14 : decode method_2_code 14 = .ok (.iconst 1, 1) := by decide +kernel
theorem d2_15 : decode method_2_code 15 = .ok (.if_icmp .le 11, 3) := by decide +kernel
theorem d2_26 : decode method_2_code 26 = .ok (.aload_n 2, 1) := by decide +kernel
theorem d2_27 : decode method_2_code 27 = .ok (.areturn, 1) := by decide +kernel
theorem pn_2 : plainName "com/example/courteous_crawler/courteouscrawler/core/WireCopyWithoutBodyPinLaw" = true := by first | (simp [plainName, overriddenIn]; done) | decide +kernel
theorem ef_2 (m : MethodId) (x0 : Int32) (x1 : Int32) : entryFrame m #[(.int x0), (.int x1)] 3 = mkF m 0 #[.val (.int x0), .val (.int x1), .unset] [] := by first | (simp [entryFrame, mkF, argsToLocals, Value.category]; done) | rfl
set_option maxRecDepth 65536 in
set_option maxHeartbeats 40000000 in
theorem rm2_tt (l : Launch) (Z : State) (a0 : Array Value) (hw : ∀ d ∈ tables_1, d.before a0 Z = true) (ws : List Jvm.Cond) (p1 : Int32) (p2 : Int32) (h0 : Heap) (n0 : Nat) (Z0 : n0 ≤ h0.size) (hng : ¬ p2 < 0) (hcap : p2.toNatClampNeg ≤ 2) (hc5 : ¬ ((0 : Int32) < p2)) (hc15 : ¬ ((1 : Int32) < p2)) :
    MetFree l (⟨"com/example/courteous_crawler/courteouscrawler/core/WireCopyWithoutBodyPinLaw", "make", "(II)[B"⟩ : MethodName) (head1 (Jvm.Cond.code (⟨"com/example/courteous_crawler/courteouscrawler/core/WireCopyWithoutBodyPinLaw", "make", "(II)[B"⟩ : MethodName) method_2_code 3 (some (.array .byte)) :: ws) ({ frames := 0, cells := 1, slots := 2, locals := 0 } : Room)) (fun a U => a = #[(.int p1), (.int p2)] ∧ Z.Warmed39 U.vm ∧ U.heap = h0) (fun _ _ _ _ _ => True) (fun _ U o U' => ∃ v L, o = .returned v ∧ QM Z p1 p2 h0 n0 v U'.heap L ∧ FrameEnd U o U' L ({ frames := 0, cells := 1, slots := 2, locals := 0 } : Room).cells ({ frames := 0, cells := 1, slots := 2, locals := 0 } : Room).slots) := by
  refine MetFree.of_bodySF (plainFor_of_name pn_2) hisR ?_
  intro p e s m args below meth c s₁ Bd hml0 hP hK
  obtain ⟨rfl, hZ, hh⟩ := hP
  have hx := Bd.exec
  have hby := Bd.bytes
  have hml : c.maxLocals = 3 := hml0
  have hown : s.vm.findClass "com/example/courteous_crawler/courteouscrawler/core/WireCopyWithoutBodyPinLaw" = some m.cls := findClass_of_methodNamed Bd.named
  have hnm := (name_of_methodNamed Bd.named Bd.method).1
  have X0 : Stand p l e ({ frames := 0, cells := 1, slots := 2, locals := 0 } : Room) s m #[(.int p1), (.int p2)] below meth c s₁ [] 0 0 := Stand.of_body Bd
  have e0 : s₁.heap = h0 := by rw [← hh, Bd.state]; rfl
  have N0 := Fr.nil n0
  have pre0 : ∀ t, Steps p.tables e below (s₁.setTop (mkF m 0 #[.val (.int p1), .val (.int p2), .unset] [])) t → Steps p.tables e below (s₁.setTop (entryFrame m #[(.int p1), (.int p2)] 3)) t := fun t k => castTop (ef_2 m p1 p2) k
  -- 3. LAWS
  obtain ⟨T3, h3, k3, X3, e3, E3, A3, st3⟩ := newP X0 hx hZ (hw _ (List.mem_of_getElem? (i := 8) rfl)) e0 (g := (mkF m 1 #[.val (.int p1), .val (.int p2), .unset] [(.int p2)])) rfl (hb hby d2_1) rfl hng (cap := 2) hcap (by decide) (by decide) (by decide)
  obtain ⟨b3, g3⟩ : ∃ z, z = h0.size := ⟨_, rfl⟩      -- the fresh array's address
  rw [← g3] at A3 st3
  have V_b3 : Arv Z h3 b3 k3 .byte p2 [(.int (0 : Int32)), (.int (0 : Int32))] (.int (0 : Int32)) := (Arv.new A3 hng).pad (pad_rep [] (.int (0 : Int32)) 2)      -- Arv Z h3 b3 k3 .byte p2 [] (its first value); a place must be in the list before it's written: Arv.pad with pad_rep
  have g_b3 : n0 ≤ b3 := Nat.le_trans Z0 (Nat.le_of_eq g3.symm)
  have sz_b3 : h0.size ≤ b3 := (Nat.le_trans (Keep.refl h0 []).1 (Nat.le_of_eq g3.symm))
  have K3 : Keep h0 h3 [] := (Keep.refl h0 []).ext E3
  -- newarray of at most cap (TODO_cap: the greatest length): this body's room: slots + cap; its caller's figures: cells + 1, slots + cap
  obtain ⟨fs, hr, hrun, hended, hW, hsame⟩ := X3.leave (v := some (.ref b3)) (fun h => by rw [Bd.returns] at h; cases h)
  refine ⟨_, _, pre0 _ ?_, hrun, hended, _, _, rfl, ?_, ⟨_, rfl⟩, hW, hsame.mono (by decide) (by decide)⟩
  -- 4. STEPS
  · show Steps p.tables e below (s₁.setTop (mkF m 0 #[.val (.int p1), .val (.int p2), .unset] [])) _
    refine XS.iloadN X0.here hx rfl (hb hby d2_0) rfl ?_
    show Steps p.tables e below (s₁.setTop (mkF m 1 #[.val (.int p1), .val (.int p2), .unset] [(.int p2)])) _
    refine st3 _ ?_
    show Steps p.tables e below (T3.setTop (mkF m 3 #[.val (.int p1), .val (.int p2), .unset] [(.ref b3)])) _
    refine XS.astoreN X3.here hx rfl (hb hby d2_3) rfl rfl (l' := #[.val (.int p1), .val (.int p2), .val (.ref b3)]) rfl ?_
    show Steps p.tables e below (T3.setTop (mkF m 4 #[.val (.int p1), .val (.int p2), .val (.ref b3)] [])) _
    refine XS.iloadN X3.here hx rfl (hb hby d2_4) rfl ?_
    show Steps p.tables e below (T3.setTop (mkF m 5 #[.val (.int p1), .val (.int p2), .val (.ref b3)] [(.int p2)])) _
    refine XS.ifYes X3.here hx rfl (pc0 := 5) (pc' := 13) rfl (hb hby d2_5) rfl ((if0 _ _).trans (flt hc5).2.2.2) (by decide) (by decide) ?_
    show Steps p.tables e below (T3.setTop (mkF m 13 #[.val (.int p1), .val (.int p2), .val (.ref b3)] [])) _
    refine XS.iloadN X3.here hx rfl (hb hby d2_13) rfl ?_
    show Steps p.tables e below (T3.setTop (mkF m 14 #[.val (.int p1), .val (.int p2), .val (.ref b3)] [(.int p2)])) _
    refine XS.iconst X3.here hx rfl (hb hby d2_14) ?_
    show Steps p.tables e below (T3.setTop (mkF m 15 #[.val (.int p1), .val (.int p2), .val (.ref b3)] [(.int (1 : Int32)), (.int p2)])) _
    refine XS.icmpYes X3.here hx rfl (pc0 := 15) (pc' := 26) rfl (hb hby d2_15) rfl (flt hc15).2.2.2 (by decide) (by decide) ?_
    show Steps p.tables e below (T3.setTop (mkF m 26 #[.val (.int p1), .val (.int p2), .val (.ref b3)] [])) _
    refine XS.aloadN X3.here hx rfl (hb hby d2_26) rfl rfl ?_
    show Steps p.tables e below (T3.setTop (mkF m 27 #[.val (.int p1), .val (.int p2), .val (.ref b3)] [(.ref b3)])) _
    jvm_step X3.here [X3.here.top, hx, (hb hby d2_27), X3.method', Bd.returns, Value.isRef, FieldType.isReference]
    first | (intro acts; rw [hr _ acts rfl rfl rfl]) | rw [hr _ _ rfl rfl rfl]
    exact Steps.refl _
  · show QM Z p1 p2 h0 n0 _ T3.heap _
    rw [e3]
    exact ⟨b3, rfl, N0, g3, K3, Mk.of V_b3 (fun q => absurd q hc5) (fun q => absurd q hc15)⟩
theorem d2_8 : decode method_2_code 8 = .ok (.aload_n 2, 1) := by decide +kernel
theorem d2_9 : decode method_2_code 9 = .ok (.iconst 0, 1) := by decide +kernel
theorem d2_10 : decode method_2_code 10 = .ok (.iload_n 0, 1) := by decide +kernel
theorem d2_11 : decode method_2_code 11 = .ok (.i2b, 1) := by decide +kernel
theorem d2_12 : decode method_2_code 12 = .ok (.bastore, 1) := by decide +kernel
set_option maxRecDepth 65536 in
set_option maxHeartbeats 40000000 in
theorem rm2_ft (l : Launch) (Z : State) (a0 : Array Value) (hw : ∀ d ∈ tables_1, d.before a0 Z = true) (ws : List Jvm.Cond) (p1 : Int32) (p2 : Int32) (h0 : Heap) (n0 : Nat) (Z0 : n0 ≤ h0.size) (hng : ¬ p2 < 0) (hcap : p2.toNatClampNeg ≤ 2) (hc5 : (0 : Int32) < p2) (hc15 : ¬ ((1 : Int32) < p2)) :
    MetFree l (⟨"com/example/courteous_crawler/courteouscrawler/core/WireCopyWithoutBodyPinLaw", "make", "(II)[B"⟩ : MethodName) (head1 (Jvm.Cond.code (⟨"com/example/courteous_crawler/courteouscrawler/core/WireCopyWithoutBodyPinLaw", "make", "(II)[B"⟩ : MethodName) method_2_code 3 (some (.array .byte)) :: ws) ({ frames := 0, cells := 1, slots := 2, locals := 0 } : Room)) (fun a U => a = #[(.int p1), (.int p2)] ∧ Z.Warmed39 U.vm ∧ U.heap = h0) (fun _ _ _ _ _ => True) (fun _ U o U' => ∃ v L, o = .returned v ∧ QM Z p1 p2 h0 n0 v U'.heap L ∧ FrameEnd U o U' L ({ frames := 0, cells := 1, slots := 2, locals := 0 } : Room).cells ({ frames := 0, cells := 1, slots := 2, locals := 0 } : Room).slots) := by
  refine MetFree.of_bodySF (plainFor_of_name pn_2) hisR ?_
  intro p e s m args below meth c s₁ Bd hml0 hP hK
  obtain ⟨rfl, hZ, hh⟩ := hP
  have hx := Bd.exec
  have hby := Bd.bytes
  have hml : c.maxLocals = 3 := hml0
  have hown : s.vm.findClass "com/example/courteous_crawler/courteouscrawler/core/WireCopyWithoutBodyPinLaw" = some m.cls := findClass_of_methodNamed Bd.named
  have hnm := (name_of_methodNamed Bd.named Bd.method).1
  have X0 : Stand p l e ({ frames := 0, cells := 1, slots := 2, locals := 0 } : Room) s m #[(.int p1), (.int p2)] below meth c s₁ [] 0 0 := Stand.of_body Bd
  have e0 : s₁.heap = h0 := by rw [← hh, Bd.state]; rfl
  have N0 := Fr.nil n0
  have pre0 : ∀ t, Steps p.tables e below (s₁.setTop (mkF m 0 #[.val (.int p1), .val (.int p2), .unset] [])) t → Steps p.tables e below (s₁.setTop (entryFrame m #[(.int p1), (.int p2)] 3)) t := fun t k => castTop (ef_2 m p1 p2) k
  -- 3. LAWS
  obtain ⟨T3, h3, k3, X3, e3, E3, A3, st3⟩ := newP X0 hx hZ (hw _ (List.mem_of_getElem? (i := 8) rfl)) e0 (g := (mkF m 1 #[.val (.int p1), .val (.int p2), .unset] [(.int p2)])) rfl (hb hby d2_1) rfl hng (cap := 2) hcap (by decide) (by decide) (by decide)
  obtain ⟨b3, g3⟩ : ∃ z, z = h0.size := ⟨_, rfl⟩      -- the fresh array's address
  rw [← g3] at A3 st3
  have V_b3 : Arv Z h3 b3 k3 .byte p2 [(.int (0 : Int32)), (.int (0 : Int32))] (.int (0 : Int32)) := (Arv.new A3 hng).pad (pad_rep [] (.int (0 : Int32)) 2)      -- Arv Z h3 b3 k3 .byte p2 [] (its first value); a place must be in the list before it's written: Arv.pad with pad_rep
  have g_b3 : n0 ≤ b3 := Nat.le_trans Z0 (Nat.le_of_eq g3.symm)
  have sz_b3 : h0.size ≤ b3 := (Nat.le_trans (Keep.refl h0 []).1 (Nat.le_of_eq g3.symm))
  have K3 : Keep h0 h3 [] := (Keep.refl h0 []).ext E3
  -- newarray of at most cap (TODO_cap: the greatest length): this body's room: slots + cap; its caller's figures: cells + 1, slots + cap
  obtain ⟨cl_b3_12, Ar_b3, q_b3, S_b3, N_b3, H_b3, G_b3⟩ := V_b3      -- open the array's fact as it stands now (its cell, kind, length, elements)
  have hin12 : ¬ ((0 : Int32) < 0 ∨ cl_b3_12.slots.size ≤ ((0 : Int32)).toNatClampNeg) := inb_of S_b3 ⟨by decide, hc5⟩
  obtain ⟨T4, h4, X4, e4, W4, st4⟩ := stB X3 hx hZ e3 Ar_b3 (j := (0 : Int32)) hin12 (g := (mkF m 12 #[.val (.int p1), .val (.int p2), .val (.ref b3)] [(.int (p1.toInt8.toInt32)), (.int (0 : Int32)), (.ref b3)])) rfl rfl (hb hby d2_12)
  have V_b3_4 := Arv.set Ar_b3 q_b3 S_b3 N_b3 H_b3 G_b3 (fits_nar_byte _) W4 0 rfl (Nat.le_of_ble_eq_true rfl)      -- the array as it stands now (the place must lie among its first values: Arv.pad with pad_rep lengthens them)
  have K4 : Keep h0 h4 [] := K3.wr W4 (Or.inr sz_b3)
  have N4 := Fr.snoc X4 N0 g_b3
  -- (bastore into a boolean[]: stZ in stB's place)
  obtain ⟨fs, hr, hrun, hended, hW, hsame⟩ := X4.leave (v := some (.ref b3)) (fun h => by rw [Bd.returns] at h; cases h)
  refine ⟨_, _, pre0 _ ?_, hrun, hended, _, _, rfl, ?_, ⟨_, rfl⟩, hW, hsame.mono (by decide) (by decide)⟩
  -- 4. STEPS
  · show Steps p.tables e below (s₁.setTop (mkF m 0 #[.val (.int p1), .val (.int p2), .unset] [])) _
    refine XS.iloadN X0.here hx rfl (hb hby d2_0) rfl ?_
    show Steps p.tables e below (s₁.setTop (mkF m 1 #[.val (.int p1), .val (.int p2), .unset] [(.int p2)])) _
    refine st3 _ ?_
    show Steps p.tables e below (T3.setTop (mkF m 3 #[.val (.int p1), .val (.int p2), .unset] [(.ref b3)])) _
    refine XS.astoreN X3.here hx rfl (hb hby d2_3) rfl rfl (l' := #[.val (.int p1), .val (.int p2), .val (.ref b3)]) rfl ?_
    show Steps p.tables e below (T3.setTop (mkF m 4 #[.val (.int p1), .val (.int p2), .val (.ref b3)] [])) _
    refine XS.iloadN X3.here hx rfl (hb hby d2_4) rfl ?_
    show Steps p.tables e below (T3.setTop (mkF m 5 #[.val (.int p1), .val (.int p2), .val (.ref b3)] [(.int p2)])) _
    refine XS.ifNo X3.here hx rfl (hb hby d2_5) rfl ((if0 _ _).trans (tlt hc5).2.2.2) ?_
    show Steps p.tables e below (T3.setTop (mkF m 8 #[.val (.int p1), .val (.int p2), .val (.ref b3)] [])) _
    refine XS.aloadN X3.here hx rfl (hb hby d2_8) rfl rfl ?_
    show Steps p.tables e below (T3.setTop (mkF m 9 #[.val (.int p1), .val (.int p2), .val (.ref b3)] [(.ref b3)])) _
    refine XS.iconst X3.here hx rfl (hb hby d2_9) ?_
    show Steps p.tables e below (T3.setTop (mkF m 10 #[.val (.int p1), .val (.int p2), .val (.ref b3)] [(.int (0 : Int32)), (.ref b3)])) _
    refine XS.iloadN X3.here hx rfl (hb hby d2_10) rfl ?_
    show Steps p.tables e below (T3.setTop (mkF m 11 #[.val (.int p1), .val (.int p2), .val (.ref b3)] [(.int p1), (.int (0 : Int32)), (.ref b3)])) _
    refine XS.i2b X3.here hx rfl (hb hby d2_11) rfl ?_
    show Steps p.tables e below (T3.setTop (mkF m 12 #[.val (.int p1), .val (.int p2), .val (.ref b3)] [(.int (p1.toInt8.toInt32)), (.int (0 : Int32)), (.ref b3)])) _
    refine st4 _ ?_
    show Steps p.tables e below (T4.setTop (mkF m 13 #[.val (.int p1), .val (.int p2), .val (.ref b3)] [])) _
    refine XS.iloadN X4.here hx rfl (hb hby d2_13) rfl ?_
    show Steps p.tables e below (T4.setTop (mkF m 14 #[.val (.int p1), .val (.int p2), .val (.ref b3)] [(.int p2)])) _
    refine XS.iconst X4.here hx rfl (hb hby d2_14) ?_
    show Steps p.tables e below (T4.setTop (mkF m 15 #[.val (.int p1), .val (.int p2), .val (.ref b3)] [(.int (1 : Int32)), (.int p2)])) _
    refine XS.icmpYes X4.here hx rfl (pc0 := 15) (pc' := 26) rfl (hb hby d2_15) rfl (flt hc15).2.2.2 (by decide) (by decide) ?_
    show Steps p.tables e below (T4.setTop (mkF m 26 #[.val (.int p1), .val (.int p2), .val (.ref b3)] [])) _
    refine XS.aloadN X4.here hx rfl (hb hby d2_26) rfl rfl ?_
    show Steps p.tables e below (T4.setTop (mkF m 27 #[.val (.int p1), .val (.int p2), .val (.ref b3)] [(.ref b3)])) _
    jvm_step X4.here [X4.here.top, hx, (hb hby d2_27), X4.method', Bd.returns, Value.isRef, FieldType.isReference]
    first | (intro acts; rw [hr _ acts rfl rfl rfl]) | rw [hr _ _ rfl rfl rfl]
    exact Steps.refl _
  · show QM Z p1 p2 h0 n0 _ T4.heap _
    rw [e4]
    exact ⟨b3, rfl, N4, g3, K4, Mk.of V_b3_4 (fun _ => congrArg Value.int (own_b8 p1)) (fun q => absurd q hc15)⟩
theorem d2_18 : decode method_2_code 18 = .ok (.aload_n 2, 1) := by decide +kernel
theorem d2_19 : decode method_2_code 19 = .ok (.iconst 1, 1) := by decide +kernel
theorem d2_20 : decode method_2_code 20 = .ok (.iload_n 0, 1) := by decide +kernel
theorem d2_21 : decode method_2_code 21 = .ok (.bipush 8, 2) := by decide +kernel
theorem d2_23 : decode method_2_code 23 = .ok (.ishr, 1) := by decide +kernel
theorem d2_24 : decode method_2_code 24 = .ok (.i2b, 1) := by decide +kernel
theorem d2_25 : decode method_2_code 25 = .ok (.bastore, 1) := by decide +kernel
set_option maxRecDepth 65536 in
set_option maxHeartbeats 40000000 in
theorem rm2_ff (l : Launch) (Z : State) (a0 : Array Value) (hw : ∀ d ∈ tables_1, d.before a0 Z = true) (ws : List Jvm.Cond) (p1 : Int32) (p2 : Int32) (h0 : Heap) (n0 : Nat) (Z0 : n0 ≤ h0.size) (hng : ¬ p2 < 0) (hcap : p2.toNatClampNeg ≤ 2) (hc5 : (0 : Int32) < p2) (hc15 : (1 : Int32) < p2) :
    MetFree l (⟨"com/example/courteous_crawler/courteouscrawler/core/WireCopyWithoutBodyPinLaw", "make", "(II)[B"⟩ : MethodName) (head1 (Jvm.Cond.code (⟨"com/example/courteous_crawler/courteouscrawler/core/WireCopyWithoutBodyPinLaw", "make", "(II)[B"⟩ : MethodName) method_2_code 3 (some (.array .byte)) :: ws) ({ frames := 0, cells := 1, slots := 2, locals := 0 } : Room)) (fun a U => a = #[(.int p1), (.int p2)] ∧ Z.Warmed39 U.vm ∧ U.heap = h0) (fun _ _ _ _ _ => True) (fun _ U o U' => ∃ v L, o = .returned v ∧ QM Z p1 p2 h0 n0 v U'.heap L ∧ FrameEnd U o U' L ({ frames := 0, cells := 1, slots := 2, locals := 0 } : Room).cells ({ frames := 0, cells := 1, slots := 2, locals := 0 } : Room).slots) := by
  refine MetFree.of_bodySF (plainFor_of_name pn_2) hisR ?_
  intro p e s m args below meth c s₁ Bd hml0 hP hK
  obtain ⟨rfl, hZ, hh⟩ := hP
  have hx := Bd.exec
  have hby := Bd.bytes
  have hml : c.maxLocals = 3 := hml0
  have hown : s.vm.findClass "com/example/courteous_crawler/courteouscrawler/core/WireCopyWithoutBodyPinLaw" = some m.cls := findClass_of_methodNamed Bd.named
  have hnm := (name_of_methodNamed Bd.named Bd.method).1
  have X0 : Stand p l e ({ frames := 0, cells := 1, slots := 2, locals := 0 } : Room) s m #[(.int p1), (.int p2)] below meth c s₁ [] 0 0 := Stand.of_body Bd
  have e0 : s₁.heap = h0 := by rw [← hh, Bd.state]; rfl
  have N0 := Fr.nil n0
  have pre0 : ∀ t, Steps p.tables e below (s₁.setTop (mkF m 0 #[.val (.int p1), .val (.int p2), .unset] [])) t → Steps p.tables e below (s₁.setTop (entryFrame m #[(.int p1), (.int p2)] 3)) t := fun t k => castTop (ef_2 m p1 p2) k
  -- 3. LAWS
  obtain ⟨T3, h3, k3, X3, e3, E3, A3, st3⟩ := newP X0 hx hZ (hw _ (List.mem_of_getElem? (i := 8) rfl)) e0 (g := (mkF m 1 #[.val (.int p1), .val (.int p2), .unset] [(.int p2)])) rfl (hb hby d2_1) rfl hng (cap := 2) hcap (by decide) (by decide) (by decide)
  obtain ⟨b3, g3⟩ : ∃ z, z = h0.size := ⟨_, rfl⟩      -- the fresh array's address
  rw [← g3] at A3 st3
  have V_b3 : Arv Z h3 b3 k3 .byte p2 [(.int (0 : Int32)), (.int (0 : Int32))] (.int (0 : Int32)) := (Arv.new A3 hng).pad (pad_rep [] (.int (0 : Int32)) 2)      -- Arv Z h3 b3 k3 .byte p2 [] (its first value); a place must be in the list before it's written: Arv.pad with pad_rep
  have g_b3 : n0 ≤ b3 := Nat.le_trans Z0 (Nat.le_of_eq g3.symm)
  have sz_b3 : h0.size ≤ b3 := (Nat.le_trans (Keep.refl h0 []).1 (Nat.le_of_eq g3.symm))
  have K3 : Keep h0 h3 [] := (Keep.refl h0 []).ext E3
  -- newarray of at most cap (TODO_cap: the greatest length): this body's room: slots + cap; its caller's figures: cells + 1, slots + cap
  obtain ⟨cl_b3_12, Ar_b3, q_b3, S_b3, N_b3, H_b3, G_b3⟩ := V_b3      -- open the array's fact as it stands now (its cell, kind, length, elements)
  have hin12 : ¬ ((0 : Int32) < 0 ∨ cl_b3_12.slots.size ≤ ((0 : Int32)).toNatClampNeg) := inb_of S_b3 ⟨by decide, hc5⟩
  obtain ⟨T4, h4, X4, e4, W4, st4⟩ := stB X3 hx hZ e3 Ar_b3 (j := (0 : Int32)) hin12 (g := (mkF m 12 #[.val (.int p1), .val (.int p2), .val (.ref b3)] [(.int (p1.toInt8.toInt32)), (.int (0 : Int32)), (.ref b3)])) rfl rfl (hb hby d2_12)
  have V_b3_4 := Arv.set Ar_b3 q_b3 S_b3 N_b3 H_b3 G_b3 (fits_nar_byte _) W4 0 rfl (Nat.le_of_ble_eq_true rfl)      -- the array as it stands now (the place must lie among its first values: Arv.pad with pad_rep lengthens them)
  have K4 : Keep h0 h4 [] := K3.wr W4 (Or.inr sz_b3)
  have N4 := Fr.snoc X4 N0 g_b3
  -- (bastore into a boolean[]: stZ in stB's place)
  obtain ⟨cl_b3_25, Ar_b3, q_b3, S_b3, N_b3, H_b3, G_b3⟩ := V_b3_4      -- open the array's fact as it stands now (its cell, kind, length, elements)
  have hin25 : ¬ ((1 : Int32) < 0 ∨ cl_b3_25.slots.size ≤ ((1 : Int32)).toNatClampNeg) := inb_of S_b3 ⟨by decide, hc15⟩
  obtain ⟨T5, h5, X5, e5, W5, st5⟩ := stB X4 hx hZ e4 Ar_b3 (j := (1 : Int32)) hin25 (g := (mkF m 25 #[.val (.int p1), .val (.int p2), .val (.ref b3)] [(.int ((p1 >>> ((8 : Int32) &&& 31)).toInt8.toInt32)), (.int (1 : Int32)), (.ref b3)])) rfl rfl (hb hby d2_25)
  have V_b3_5 := Arv.set Ar_b3 q_b3 S_b3 N_b3 H_b3 G_b3 (fits_nar_byte _) W5 1 rfl (Nat.le_of_ble_eq_true rfl)      -- the array as it stands now (the place must lie among its first values: Arv.pad with pad_rep lengthens them)
  have K5 : Keep h0 h5 [] := K4.wr W5 (Or.inr sz_b3)
  have N5 := Fr.snoc X5 N4 g_b3
  -- (bastore into a boolean[]: stZ in stB's place)
  obtain ⟨fs, hr, hrun, hended, hW, hsame⟩ := X5.leave (v := some (.ref b3)) (fun h => by rw [Bd.returns] at h; cases h)
  refine ⟨_, _, pre0 _ ?_, hrun, hended, _, _, rfl, ?_, ⟨_, rfl⟩, hW, hsame.mono (by decide) (by decide)⟩
  -- 4. STEPS
  · show Steps p.tables e below (s₁.setTop (mkF m 0 #[.val (.int p1), .val (.int p2), .unset] [])) _
    refine XS.iloadN X0.here hx rfl (hb hby d2_0) rfl ?_
    show Steps p.tables e below (s₁.setTop (mkF m 1 #[.val (.int p1), .val (.int p2), .unset] [(.int p2)])) _
    refine st3 _ ?_
    show Steps p.tables e below (T3.setTop (mkF m 3 #[.val (.int p1), .val (.int p2), .unset] [(.ref b3)])) _
    refine XS.astoreN X3.here hx rfl (hb hby d2_3) rfl rfl (l' := #[.val (.int p1), .val (.int p2), .val (.ref b3)]) rfl ?_
    show Steps p.tables e below (T3.setTop (mkF m 4 #[.val (.int p1), .val (.int p2), .val (.ref b3)] [])) _
    refine XS.iloadN X3.here hx rfl (hb hby d2_4) rfl ?_
    show Steps p.tables e below (T3.setTop (mkF m 5 #[.val (.int p1), .val (.int p2), .val (.ref b3)] [(.int p2)])) _
    refine XS.ifNo X3.here hx rfl (hb hby d2_5) rfl ((if0 _ _).trans (tlt hc5).2.2.2) ?_
    show Steps p.tables e below (T3.setTop (mkF m 8 #[.val (.int p1), .val (.int p2), .val (.ref b3)] [])) _
    refine XS.aloadN X3.here hx rfl (hb hby d2_8) rfl rfl ?_
    show Steps p.tables e below (T3.setTop (mkF m 9 #[.val (.int p1), .val (.int p2), .val (.ref b3)] [(.ref b3)])) _
    refine XS.iconst X3.here hx rfl (hb hby d2_9) ?_
    show Steps p.tables e below (T3.setTop (mkF m 10 #[.val (.int p1), .val (.int p2), .val (.ref b3)] [(.int (0 : Int32)), (.ref b3)])) _
    refine XS.iloadN X3.here hx rfl (hb hby d2_10) rfl ?_
    show Steps p.tables e below (T3.setTop (mkF m 11 #[.val (.int p1), .val (.int p2), .val (.ref b3)] [(.int p1), (.int (0 : Int32)), (.ref b3)])) _
    refine XS.i2b X3.here hx rfl (hb hby d2_11) rfl ?_
    show Steps p.tables e below (T3.setTop (mkF m 12 #[.val (.int p1), .val (.int p2), .val (.ref b3)] [(.int (p1.toInt8.toInt32)), (.int (0 : Int32)), (.ref b3)])) _
    refine st4 _ ?_
    show Steps p.tables e below (T4.setTop (mkF m 13 #[.val (.int p1), .val (.int p2), .val (.ref b3)] [])) _
    refine XS.iloadN X4.here hx rfl (hb hby d2_13) rfl ?_
    show Steps p.tables e below (T4.setTop (mkF m 14 #[.val (.int p1), .val (.int p2), .val (.ref b3)] [(.int p2)])) _
    refine XS.iconst X4.here hx rfl (hb hby d2_14) ?_
    show Steps p.tables e below (T4.setTop (mkF m 15 #[.val (.int p1), .val (.int p2), .val (.ref b3)] [(.int (1 : Int32)), (.int p2)])) _
    refine XS.icmpNo X4.here hx rfl (hb hby d2_15) rfl (tlt hc15).2.2.2 ?_
    show Steps p.tables e below (T4.setTop (mkF m 18 #[.val (.int p1), .val (.int p2), .val (.ref b3)] [])) _
    refine XS.aloadN X4.here hx rfl (hb hby d2_18) rfl rfl ?_
    show Steps p.tables e below (T4.setTop (mkF m 19 #[.val (.int p1), .val (.int p2), .val (.ref b3)] [(.ref b3)])) _
    refine XS.iconst X4.here hx rfl (hb hby d2_19) ?_
    show Steps p.tables e below (T4.setTop (mkF m 20 #[.val (.int p1), .val (.int p2), .val (.ref b3)] [(.int (1 : Int32)), (.ref b3)])) _
    refine XS.iloadN X4.here hx rfl (hb hby d2_20) rfl ?_
    show Steps p.tables e below (T4.setTop (mkF m 21 #[.val (.int p1), .val (.int p2), .val (.ref b3)] [(.int p1), (.int (1 : Int32)), (.ref b3)])) _
    refine XS.bipush X4.here hx rfl (hb hby d2_21) ?_
    show Steps p.tables e below (T4.setTop (mkF m 23 #[.val (.int p1), .val (.int p2), .val (.ref b3)] [(.int (8 : Int32)), (.int p1), (.int (1 : Int32)), (.ref b3)])) _
    refine XS.ishr X4.here hx rfl (hb hby d2_23) rfl ?_
    show Steps p.tables e below (T4.setTop (mkF m 24 #[.val (.int p1), .val (.int p2), .val (.ref b3)] [(.int (p1 >>> ((8 : Int32) &&& 31))), (.int (1 : Int32)), (.ref b3)])) _
    refine XS.i2b X4.here hx rfl (hb hby d2_24) rfl ?_
    show Steps p.tables e below (T4.setTop (mkF m 25 #[.val (.int p1), .val (.int p2), .val (.ref b3)] [(.int ((p1 >>> ((8 : Int32) &&& 31)).toInt8.toInt32)), (.int (1 : Int32)), (.ref b3)])) _
    refine st5 _ ?_
    show Steps p.tables e below (T5.setTop (mkF m 26 #[.val (.int p1), .val (.int p2), .val (.ref b3)] [])) _
    refine XS.aloadN X5.here hx rfl (hb hby d2_26) rfl rfl ?_
    show Steps p.tables e below (T5.setTop (mkF m 27 #[.val (.int p1), .val (.int p2), .val (.ref b3)] [(.ref b3)])) _
    jvm_step X5.here [X5.here.top, hx, (hb hby d2_27), X5.method', Bd.returns, Value.isRef, FieldType.isReference]
    first | (intro acts; rw [hr _ acts rfl rfl rfl]) | rw [hr _ _ rfl rfl rfl]
    exact Steps.refl _
  · show QM Z p1 p2 h0 n0 _ T5.heap _
    rw [e5]
    exact ⟨b3, rfl, N5, g3, K5, Mk.of V_b3_5 (fun _ => congrArg Value.int (own_b8 p1)) (fun _ => congrArg Value.int (own_b8 _))⟩
set_option maxRecDepth 65536 in
set_option maxHeartbeats 40000000 in
theorem rm2 (l : Launch) (Z : State) (a0 : Array Value) (hw : ∀ d ∈ tables_1, d.before a0 Z = true) (ws : List Jvm.Cond) (p1 : Int32) (p2 : Int32) (h0 : Heap) (n0 : Nat) (Z0 : n0 ≤ h0.size) (hp : p2 = (0 : Int32) ∨ p2 = (1 : Int32) ∨ p2 = (2 : Int32)) :
    MetFree l (⟨"com/example/courteous_crawler/courteouscrawler/core/WireCopyWithoutBodyPinLaw", "make", "(II)[B"⟩ : MethodName) (head1 (Jvm.Cond.code (⟨"com/example/courteous_crawler/courteouscrawler/core/WireCopyWithoutBodyPinLaw", "make", "(II)[B"⟩ : MethodName) method_2_code 3 (some (.array .byte)) :: ws) ({ frames := 0, cells := 1, slots := 2, locals := 0 } : Room)) (fun a U => a = #[(.int p1), (.int p2)] ∧ Z.Warmed39 U.vm ∧ U.heap = h0) (fun _ _ _ _ _ => True) (fun _ U o U' => ∃ v L, o = .returned v ∧ QM Z p1 p2 h0 n0 v U'.heap L ∧ FrameEnd U o U' L ({ frames := 0, cells := 1, slots := 2, locals := 0 } : Room).cells ({ frames := 0, cells := 1, slots := 2, locals := 0 } : Room).slots) := by
  rcases hp with rfl | rfl | rfl
  · exact rm2_tt l Z a0 hw ws p1 _ h0 n0 Z0 (by decide) (by decide) (by decide) (by decide)
  · exact rm2_ft l Z a0 hw ws p1 _ h0 n0 Z0 (by decide) (by decide) (by decide) (by decide)
  · exact rm2_ff l Z a0 hw ws p1 _ h0 n0 Z0 (by decide) (by decide) (by decide) (by decide)
theorem d4_0 : decode jdk_30_method_1_code 0 = .ok (.aload_n 0, 1) := by decide +kernel
theorem d4_1 : decode jdk_30_method_1_code 1 = .ok (.invokespecial 1, 3) := by decide +kernel
theorem d4_4 : decode jdk_30_method_1_code 4 = .ok (.return_, 1) := by decide +kernel
theorem pn_4 : plainName "java/lang/Record" = true := by first | (simp [plainName, overriddenIn]; done) | decide +kernel
theorem ef_4 (m : MethodId) (x0 : Addr) : entryFrame m #[(.ref x0)] 1 = mkF m 0 #[.val (.ref x0)] [] := by first | (simp [entryFrame, mkF, argsToLocals, Value.category]; done) | rfl
set_option maxRecDepth 65536 in
set_option maxHeartbeats 40000000 in
theorem rm4 (l : Launch) (Z : State) (a0 : Array Value) (hw : ∀ d ∈ tables_1, d.before a0 Z = true) (ws : List Jvm.Cond) (a1 : Addr) (h0 : Heap) (n0 : Nat) (Z0 : n0 ≤ h0.size) :
    MetFree l (⟨"java/lang/Record", "<init>", "()V"⟩ : MethodName) (head1 (Jvm.Cond.code (⟨"java/lang/Record", "<init>", "()V"⟩ : MethodName) jdk_30_method_1_code 1 none :: ws) ({ frames := 1, cells := 0, slots := 0, locals := 12 } : Room)) (fun a U => a = #[(.ref a1)] ∧ Z.Warmed39 U.vm ∧ U.heap = h0) (fun _ _ _ _ _ => True) (fun _ U o U' => ∃ v L, o = .returned v ∧ QN h0 n0 v U'.heap L ∧ FrameEnd U o U' L ({ frames := 1, cells := 0, slots := 0, locals := 12 } : Room).cells ({ frames := 1, cells := 0, slots := 0, locals := 12 } : Room).slots) := by
  refine MetFree.of_bodySF (plainFor_of_name pn_4) hisR ?_
  intro p e s m args below meth c s₁ Bd hml0 hP hK
  obtain ⟨rfl, hZ, hh⟩ := hP
  have hx := Bd.exec
  have hby := Bd.bytes
  have hml : c.maxLocals = 1 := hml0
  have hown : s.vm.findClass "java/lang/Record" = some m.cls := findClass_of_methodNamed Bd.named
  have hnm := (name_of_methodNamed Bd.named Bd.method).1
  have X0 : Stand p l e ({ frames := 1, cells := 0, slots := 0, locals := 12 } : Room) s m #[(.ref a1)] below meth c s₁ [] 0 0 := Stand.of_body Bd
  have e0 : s₁.heap = h0 := by rw [← hh, Bd.state]; rfl
  have N0 := Fr.nil n0
  have pre0 : ∀ t, Steps p.tables e below (s₁.setTop (mkF m 0 #[.val (.ref a1)] [])) t → Steps p.tables e below (s₁.setTop (entryFrame m #[(.ref a1)] 1)) t := fun t k => castTop (ef_4 m a1) k
  -- 3. LAWS
  obtain ⟨T2, X2, e2, st2⟩ := initO X0 hx hZ hown (hw _ (List.mem_of_getElem? (i := 20) rfl)) (hw _ (List.mem_of_getElem? (i := 21) rfl)) (hw _ (List.mem_of_getElem? (i := 22) rfl)) e0 (g := (mkF m 1 #[.val (.ref a1)] [(.ref a1)])) rfl (by rw [hml]; rfl) rfl (hb hby d4_1) (by decide) (W := 0) (by show 2 * 0 + _ ≤ _; exact Nat.le_of_eq rfl) (by decide)
  obtain ⟨fs, hr, hrun, hended, hW, hsame⟩ := X2.leave (v := none) (fun _ => rfl)
  refine ⟨_, _, pre0 _ ?_, hrun, hended, _, _, rfl, ?_, ⟨_, rfl⟩, hW, hsame.mono (by decide) (by decide)⟩
  -- 4. STEPS
  · show Steps p.tables e below (s₁.setTop (mkF m 0 #[.val (.ref a1)] [])) _
    refine XS.aloadN X0.here hx rfl (hb hby d4_0) rfl rfl ?_
    show Steps p.tables e below (s₁.setTop (mkF m 1 #[.val (.ref a1)] [(.ref a1)])) _
    refine st2 _ ?_
    show Steps p.tables e below (T2.setTop (mkF m 4 #[.val (.ref a1)] [])) _
    exact X2.returnOut hx Bd.returns (hb hby d4_4) hr
  · show QN h0 n0 _ T2.heap _
    rw [e2]
    exact ⟨rfl, N0, rfl⟩
def QC (Z : State) (b r q : Addr) (f : Value) (h0 : Heap) (n0 : Nat) (v : Option Value) (h : Heap) (L : List Loc) : Prop := v = none ∧ Fr n0 L ∧ Keep h0 h [b] ∧ Exa Z h b "com/example/courteous_crawler/courteouscrawler/core/WireCopy" ∧ Fld Z h b "com/example/courteous_crawler/courteouscrawler/core/WireCopy" "request" "[B" (.ref r) ∧ Fld Z h b "com/example/courteous_crawler/courteouscrawler/core/WireCopy" "head" "[B" (.ref q) ∧ Fld Z h b "com/example/courteous_crawler/courteouscrawler/core/WireCopy" "framedBody" "[B" f
theorem d3_0 : decode prog_43_method_1_code 0 = .ok (.aload_n 0, 1) := by decide +kernel
theorem d3_1 : decode prog_43_method_1_code 1 = .ok (.invokespecial 1, 3) := by decide +kernel
theorem d3_4 : decode prog_43_method_1_code 4 = .ok (.aload_n 0, 1) := by decide +kernel
theorem d3_5 : decode prog_43_method_1_code 5 = .ok (.aload_n 1, 1) := by decide +kernel
theorem d3_6 : decode prog_43_method_1_code 6 = .ok (.putfield 7, 3) := by decide +kernel
theorem d3_9 : decode prog_43_method_1_code 9 = .ok (.aload_n 0, 1) := by decide +kernel
theorem d3_10 : decode prog_43_method_1_code 10 = .ok (.aload_n 2, 1) := by decide +kernel
theorem d3_11 : decode prog_43_method_1_code 11 = .ok (.putfield 13, 3) := by decide +kernel
theorem d3_14 : decode prog_43_method_1_code 14 = .ok (.aload_n 0, 1) := by decide +kernel
theorem d3_15 : decode prog_43_method_1_code 15 = .ok (.aload_n 3, 1) := by decide +kernel
theorem d3_16 : decode prog_43_method_1_code 16 = .ok (.putfield 16, 3) := by decide +kernel
theorem d3_19 : decode prog_43_method_1_code 19 = .ok (.return_, 1) := by decide +kernel
theorem pn_3 : plainName "com/example/courteous_crawler/courteouscrawler/core/WireCopy" = true := by first | (simp [plainName, overriddenIn]; done) | decide +kernel
theorem pd_3_3 : parseMethodDescriptor "()V" = some ⟨[], none⟩ := by decide +kernel
theorem ef_3 (m : MethodId) (x0 : Addr) (x1 : Addr) (x2 : Addr) (x3 : Addr) : entryFrame m #[(.ref x0), (.ref x1), (.ref x2), (.ref x3)] 4 = mkF m 0 #[.val (.ref x0), .val (.ref x1), .val (.ref x2), .val (.ref x3)] [] := by first | (simp [entryFrame, mkF, argsToLocals, Value.category]; done) | rfl
set_option maxRecDepth 65536 in
set_option maxHeartbeats 40000000 in
theorem rm3 (l : Launch) (Z : State) (a0 : Array Value) (hw : ∀ d ∈ tables_1, d.before a0 Z = true) (ws : List Jvm.Cond) (a1 : Addr) (a2 : Addr) (a3 : Addr) (a4 : Addr) (u_request_a1 : Value) (u_head_a1 : Value) (u_framedBody_a1 : Value) (h0 : Heap) (n0 : Nat) (Z0 : n0 ≤ h0.size) (E_a1 : Exa Z h0 a1 "com/example/courteous_crawler/courteouscrawler/core/WireCopy") (F_request_a1 : Fld Z h0 a1 "com/example/courteous_crawler/courteouscrawler/core/WireCopy" "request" "[B" u_request_a1) (g_a1 : n0 ≤ a1) (F_head_a1 : Fld Z h0 a1 "com/example/courteous_crawler/courteouscrawler/core/WireCopy" "head" "[B" u_head_a1) (F_framedBody_a1 : Fld Z h0 a1 "com/example/courteous_crawler/courteouscrawler/core/WireCopy" "framedBody" "[B" u_framedBody_a1) :
    MetFree l (⟨"com/example/courteous_crawler/courteouscrawler/core/WireCopy", "<init>", "([B[B[B)V"⟩ : MethodName) (head1 (Jvm.Cond.code (⟨"com/example/courteous_crawler/courteouscrawler/core/WireCopy", "<init>", "([B[B[B)V"⟩ : MethodName) prog_43_method_1_code 4 none :: ws) ({ frames := 2, cells := 0, slots := 0, locals := 24 } : Room)) (fun a U => a = #[(.ref a1), (.ref a2), (.ref a3), (.ref a4)] ∧ Z.Warmed39 U.vm ∧ U.heap = h0) (fun _ _ _ _ _ => True) (fun _ U o U' => ∃ v L, o = .returned v ∧ QC Z a1 a2 a3 (.ref a4) h0 n0 v U'.heap L ∧ FrameEnd U o U' L ({ frames := 2, cells := 0, slots := 0, locals := 24 } : Room).cells ({ frames := 2, cells := 0, slots := 0, locals := 24 } : Room).slots) := by
  refine MetFree.of_bodySF (plainFor_of_name pn_3) hisR ?_
  intro p e s m args below meth c s₁ Bd hml0 hP hK
  obtain ⟨rfl, hZ, hh⟩ := hP
  have hx := Bd.exec
  have hby := Bd.bytes
  have hml : c.maxLocals = 4 := hml0
  have hown : s.vm.findClass "com/example/courteous_crawler/courteouscrawler/core/WireCopy" = some m.cls := findClass_of_methodNamed Bd.named
  have hnm := (name_of_methodNamed Bd.named Bd.method).1
  have X0 : Stand p l e ({ frames := 2, cells := 0, slots := 0, locals := 24 } : Room) s m #[(.ref a1), (.ref a2), (.ref a3), (.ref a4)] below meth c s₁ [] 0 0 := Stand.of_body Bd
  have e0 : s₁.heap = h0 := by rw [← hh, Bd.state]; rfl
  have N0 := Fr.nil n0
  have pre0 : ∀ t, Steps p.tables e below (s₁.setTop (mkF m 0 #[.val (.ref a1), .val (.ref a2), .val (.ref a3), .val (.ref a4)] [])) t → Steps p.tables e below (s₁.setTop (entryFrame m #[(.ref a1), (.ref a2), (.ref a3), (.ref a4)] 4)) t := fun t k => castTop (ef_3 m a1 a2 a3 a4) k
  -- 3. LAWS
  -- pc 1: the constructor of java/lang/Record by its contract rm4
  obtain ⟨_, _, ⟨T5, L5, k5, n5⟩, -, X5, ⟨Lc5, hQ5, l5, y5, z5⟩, st5⟩ := X0.specialBack hx (y := (⟨"java/lang/Record", "<init>", "()V"⟩ : MethodName)) rfl hown (mvT hZ (hw _ (List.mem_of_getElem? (i := 15) rfl))) (mvT hZ (hw _ (List.mem_of_getElem? (i := 16) rfl))) (mvT hZ (hw _ (List.mem_of_getElem? (i := 19) rfl))) (by decide) (backOf (W := 0) (rm4 l Z a0 hw [] a1 h0 n0 Z0) hZ (hw _ (List.mem_of_getElem? (i := 19) rfl)) (hw _ (List.mem_of_getElem? (i := 18) rfl)) (by decide) (by decide)) (g := (mkF m 1 #[.val (.ref a1), .val (.ref a2), .val (.ref a3), .val (.ref a4)] [(.ref a1)])) rfl (by rw [hml]; rfl) (Steps.refl _) (a := a1) (argsL := []) (rest := []) (lenOf pd_3_3 rfl) rfl (by show 2 * 0 + _ ≤ _; exact Nat.le_of_eq rfl) (hb hby d3_1) (fun _ _ => ⟨rfl, e0, (by decide : 0 + 0 ≤ _), (by decide : 0 + 0 ≤ _)⟩)
  dsimp only [Pt.U, Pt.locs, Pt.cells, Pt.slots] at X5 l5 y5 z5 st5 hQ5
  subst l5 y5 z5
  obtain ⟨rfl, N5q, eh5⟩ := hQ5
  have N5 := Fr.app N0 N5q
  obtain ⟨T6, h6, X6, e6, W6, st6⟩ := putF X5 hx hZ hown (host := "") (Or.inl (hw _ (List.mem_of_getElem? (i := 23) rfl))) Via.refl eh5 F_request_a1 E_a1 (Or.inr ⟨(hw _ (List.mem_of_getElem? (i := 24) rfl)), rfl, hnm⟩) (hw _ (List.mem_of_getElem? (i := 10) rfl)) (ty := (.array .byte)) (by decide) rfl rfl (g := (mkF m 6 #[.val (.ref a1), .val (.ref a2), .val (.ref a3), .val (.ref a4)] [(.ref a2), (.ref a1)])) rfl rfl (hb hby d3_6)
  have Fw6 := F_request_a1.same W6      -- the field now holds (.ref a2)
  have K6 : Keep h0 h6 [a1] := (Keep.refl h0 [a1]).wr W6 (Or.inl (List.mem_of_getElem? (i := 0) rfl))
  have N6 := Fr.snoc X6 N5 g_a1
  obtain ⟨T7, h7, X7, e7, W7, st7⟩ := putF X6 hx hZ hown (host := "") (Or.inl (hw _ (List.mem_of_getElem? (i := 25) rfl))) Via.refl e6 (F_head_a1.other W6 (Or.inr (slot_ne (Or.inr (hw _ (List.mem_of_getElem? (i := 26) rfl))) (Or.inr (hw _ (List.mem_of_getElem? (i := 24) rfl))) (by decide) (t := (.array .byte)) (t' := (.array .byte)) (by decide) (by decide)))) (E_a1.wr W6) (Or.inr ⟨(hw _ (List.mem_of_getElem? (i := 26) rfl)), rfl, hnm⟩) (hw _ (List.mem_of_getElem? (i := 10) rfl)) (ty := (.array .byte)) (by decide) rfl rfl (g := (mkF m 11 #[.val (.ref a1), .val (.ref a2), .val (.ref a3), .val (.ref a4)] [(.ref a3), (.ref a1)])) rfl rfl (hb hby d3_11)
  have Fw7 := (F_head_a1.other W6 (Or.inr (slot_ne (Or.inr (hw _ (List.mem_of_getElem? (i := 26) rfl))) (Or.inr (hw _ (List.mem_of_getElem? (i := 24) rfl))) (by decide) (t := (.array .byte)) (t' := (.array .byte)) (by decide) (by decide)))).same W7      -- the field now holds (.ref a3)
  have K7 : Keep h0 h7 [a1] := K6.wr W7 (Or.inl (List.mem_of_getElem? (i := 0) rfl))
  have N7 := Fr.snoc X7 N6 g_a1
  obtain ⟨T8, h8, X8, e8, W8, st8⟩ := putF X7 hx hZ hown (host := "") (Or.inl (hw _ (List.mem_of_getElem? (i := 27) rfl))) Via.refl e7 ((F_framedBody_a1.other W6 (Or.inr (slot_ne (Or.inr (hw _ (List.mem_of_getElem? (i := 28) rfl))) (Or.inr (hw _ (List.mem_of_getElem? (i := 24) rfl))) (by decide) (t := (.array .byte)) (t' := (.array .byte)) (by decide) (by decide)))).other W7 (Or.inr (slot_ne (Or.inr (hw _ (List.mem_of_getElem? (i := 28) rfl))) (Or.inr (hw _ (List.mem_of_getElem? (i := 26) rfl))) (by decide) (t := (.array .byte)) (t' := (.array .byte)) (by decide) (by decide)))) ((E_a1.wr W6).wr W7) (Or.inr ⟨(hw _ (List.mem_of_getElem? (i := 28) rfl)), rfl, hnm⟩) (hw _ (List.mem_of_getElem? (i := 10) rfl)) (ty := (.array .byte)) (by decide) rfl rfl (g := (mkF m 16 #[.val (.ref a1), .val (.ref a2), .val (.ref a3), .val (.ref a4)] [(.ref a4), (.ref a1)])) rfl rfl (hb hby d3_16)
  have Fw8 := ((F_framedBody_a1.other W6 (Or.inr (slot_ne (Or.inr (hw _ (List.mem_of_getElem? (i := 28) rfl))) (Or.inr (hw _ (List.mem_of_getElem? (i := 24) rfl))) (by decide) (t := (.array .byte)) (t' := (.array .byte)) (by decide) (by decide)))).other W7 (Or.inr (slot_ne (Or.inr (hw _ (List.mem_of_getElem? (i := 28) rfl))) (Or.inr (hw _ (List.mem_of_getElem? (i := 26) rfl))) (by decide) (t := (.array .byte)) (t' := (.array .byte)) (by decide) (by decide)))).same W8      -- the field now holds (.ref a4)
  have K8 : Keep h0 h8 [a1] := K7.wr W8 (Or.inl (List.mem_of_getElem? (i := 0) rfl))
  have N8 := Fr.snoc X8 N7 g_a1
  obtain ⟨fs, hr, hrun, hended, hW, hsame⟩ := X8.leave (v := none) (fun _ => rfl)
  refine ⟨_, _, pre0 _ ?_, hrun, hended, _, _, rfl, ?_, ⟨_, rfl⟩, hW, hsame.mono (by decide) (by decide)⟩
  -- 4. STEPS
  · show Steps p.tables e below (s₁.setTop (mkF m 0 #[.val (.ref a1), .val (.ref a2), .val (.ref a3), .val (.ref a4)] [])) _
    refine XS.aloadN X0.here hx rfl (hb hby d3_0) rfl rfl ?_
    show Steps p.tables e below (s₁.setTop (mkF m 1 #[.val (.ref a1), .val (.ref a2), .val (.ref a3), .val (.ref a4)] [(.ref a1)])) _
    refine st5.trans ?_
    show Steps p.tables e below (T5.setTop (mkF m 4 #[.val (.ref a1), .val (.ref a2), .val (.ref a3), .val (.ref a4)] [])) _
    refine XS.aloadN X5.here hx rfl (hb hby d3_4) rfl rfl ?_
    show Steps p.tables e below (T5.setTop (mkF m 5 #[.val (.ref a1), .val (.ref a2), .val (.ref a3), .val (.ref a4)] [(.ref a1)])) _
    refine XS.aloadN X5.here hx rfl (hb hby d3_5) rfl rfl ?_
    show Steps p.tables e below (T5.setTop (mkF m 6 #[.val (.ref a1), .val (.ref a2), .val (.ref a3), .val (.ref a4)] [(.ref a2), (.ref a1)])) _
    refine st6 _ ?_
    show Steps p.tables e below (T6.setTop (mkF m 9 #[.val (.ref a1), .val (.ref a2), .val (.ref a3), .val (.ref a4)] [])) _
    refine XS.aloadN X6.here hx rfl (hb hby d3_9) rfl rfl ?_
    show Steps p.tables e below (T6.setTop (mkF m 10 #[.val (.ref a1), .val (.ref a2), .val (.ref a3), .val (.ref a4)] [(.ref a1)])) _
    refine XS.aloadN X6.here hx rfl (hb hby d3_10) rfl rfl ?_
    show Steps p.tables e below (T6.setTop (mkF m 11 #[.val (.ref a1), .val (.ref a2), .val (.ref a3), .val (.ref a4)] [(.ref a3), (.ref a1)])) _
    refine st7 _ ?_
    show Steps p.tables e below (T7.setTop (mkF m 14 #[.val (.ref a1), .val (.ref a2), .val (.ref a3), .val (.ref a4)] [])) _
    refine XS.aloadN X7.here hx rfl (hb hby d3_14) rfl rfl ?_
    show Steps p.tables e below (T7.setTop (mkF m 15 #[.val (.ref a1), .val (.ref a2), .val (.ref a3), .val (.ref a4)] [(.ref a1)])) _
    refine XS.aloadN X7.here hx rfl (hb hby d3_15) rfl rfl ?_
    show Steps p.tables e below (T7.setTop (mkF m 16 #[.val (.ref a1), .val (.ref a2), .val (.ref a3), .val (.ref a4)] [(.ref a4), (.ref a1)])) _
    refine st8 _ ?_
    show Steps p.tables e below (T8.setTop (mkF m 19 #[.val (.ref a1), .val (.ref a2), .val (.ref a3), .val (.ref a4)] [])) _
    exact X8.returnOut hx Bd.returns (hb hby d3_19) hr
  · show QC Z a1 a2 a3 (.ref a4) h0 n0 _ T8.heap _
    rw [e8]
    exact ⟨rfl, N8, K8, (((E_a1.wr W6).wr W7).wr W8), ((Fw6.other W7 (Or.inr (slot_ne (Or.inr (hw _ (List.mem_of_getElem? (i := 24) rfl))) (Or.inr (hw _ (List.mem_of_getElem? (i := 26) rfl))) (by decide) (t := (.array .byte)) (t' := (.array .byte)) (by decide) (by decide)))).other W8 (Or.inr (slot_ne (Or.inr (hw _ (List.mem_of_getElem? (i := 24) rfl))) (Or.inr (hw _ (List.mem_of_getElem? (i := 28) rfl))) (by decide) (t := (.array .byte)) (t' := (.array .byte)) (by decide) (by decide)))), (Fw7.other W8 (Or.inr (slot_ne (Or.inr (hw _ (List.mem_of_getElem? (i := 26) rfl))) (Or.inr (hw _ (List.mem_of_getElem? (i := 28) rfl))) (by decide) (t := (.array .byte)) (t' := (.array .byte)) (by decide) (by decide)))), Fw8⟩
theorem ef_rm3n (m : MethodId) (x0 : Addr) (x1 : Addr) (x2 : Addr) : entryFrame m #[(.ref x0), (.ref x1), (.ref x2), .null] 4 = mkF m 0 #[.val (.ref x0), .val (.ref x1), .val (.ref x2), .val .null] [] := by first | (simp [entryFrame, mkF, argsToLocals, Value.category]; done) | rfl
set_option maxRecDepth 65536 in
set_option maxHeartbeats 40000000 in
theorem rm3n (l : Launch) (Z : State) (a0 : Array Value) (hw : ∀ d ∈ tables_1, d.before a0 Z = true) (ws : List Jvm.Cond) (a1 : Addr) (a2 : Addr) (a3 : Addr) (u_request_a1 : Value) (u_head_a1 : Value) (u_framedBody_a1 : Value) (h0 : Heap) (n0 : Nat) (Z0 : n0 ≤ h0.size) (E_a1 : Exa Z h0 a1 "com/example/courteous_crawler/courteouscrawler/core/WireCopy") (F_request_a1 : Fld Z h0 a1 "com/example/courteous_crawler/courteouscrawler/core/WireCopy" "request" "[B" u_request_a1) (g_a1 : n0 ≤ a1) (F_head_a1 : Fld Z h0 a1 "com/example/courteous_crawler/courteouscrawler/core/WireCopy" "head" "[B" u_head_a1) (F_framedBody_a1 : Fld Z h0 a1 "com/example/courteous_crawler/courteouscrawler/core/WireCopy" "framedBody" "[B" u_framedBody_a1) :
    MetFree l (⟨"com/example/courteous_crawler/courteouscrawler/core/WireCopy", "<init>", "([B[B[B)V"⟩ : MethodName) (head1 (Jvm.Cond.code (⟨"com/example/courteous_crawler/courteouscrawler/core/WireCopy", "<init>", "([B[B[B)V"⟩ : MethodName) prog_43_method_1_code 4 none :: ws) ({ frames := 2, cells := 0, slots := 0, locals := 24 } : Room)) (fun a U => a = #[(.ref a1), (.ref a2), (.ref a3), .null] ∧ Z.Warmed39 U.vm ∧ U.heap = h0) (fun _ _ _ _ _ => True) (fun _ U o U' => ∃ v L, o = .returned v ∧ QC Z a1 a2 a3 .null h0 n0 v U'.heap L ∧ FrameEnd U o U' L ({ frames := 2, cells := 0, slots := 0, locals := 24 } : Room).cells ({ frames := 2, cells := 0, slots := 0, locals := 24 } : Room).slots) := by
  refine MetFree.of_bodySF (plainFor_of_name pn_3) hisR ?_
  intro p e s m args below meth c s₁ Bd hml0 hP hK
  obtain ⟨rfl, hZ, hh⟩ := hP
  have hx := Bd.exec
  have hby := Bd.bytes
  have hml : c.maxLocals = 4 := hml0
  have hown : s.vm.findClass "com/example/courteous_crawler/courteouscrawler/core/WireCopy" = some m.cls := findClass_of_methodNamed Bd.named
  have hnm := (name_of_methodNamed Bd.named Bd.method).1
  have X0 : Stand p l e ({ frames := 2, cells := 0, slots := 0, locals := 24 } : Room) s m #[(.ref a1), (.ref a2), (.ref a3), .null] below meth c s₁ [] 0 0 := Stand.of_body Bd
  have e0 : s₁.heap = h0 := by rw [← hh, Bd.state]; rfl
  have N0 := Fr.nil n0
  have pre0 : ∀ t, Steps p.tables e below (s₁.setTop (mkF m 0 #[.val (.ref a1), .val (.ref a2), .val (.ref a3), .val .null] [])) t → Steps p.tables e below (s₁.setTop (entryFrame m #[(.ref a1), (.ref a2), (.ref a3), .null] 4)) t := fun t k => castTop (ef_rm3n m a1 a2 a3) k
  -- 3. LAWS
  -- pc 1: the constructor of java/lang/Record by its contract rm4
  obtain ⟨_, _, ⟨T4, L4, k4, n4⟩, -, X4, ⟨Lc4, hQ4, l4, y4, z4⟩, st4⟩ := X0.specialBack hx (y := (⟨"java/lang/Record", "<init>", "()V"⟩ : MethodName)) rfl hown (mvT hZ (hw _ (List.mem_of_getElem? (i := 15) rfl))) (mvT hZ (hw _ (List.mem_of_getElem? (i := 16) rfl))) (mvT hZ (hw _ (List.mem_of_getElem? (i := 19) rfl))) (by decide) (backOf (W := 0) (rm4 l Z a0 hw [] a1 h0 n0 Z0) hZ (hw _ (List.mem_of_getElem? (i := 19) rfl)) (hw _ (List.mem_of_getElem? (i := 18) rfl)) (by decide) (by decide)) (g := (mkF m 1 #[.val (.ref a1), .val (.ref a2), .val (.ref a3), .val .null] [(.ref a1)])) rfl (by rw [hml]; rfl) (Steps.refl _) (a := a1) (argsL := []) (rest := []) (lenOf pd_3_3 rfl) rfl (by show 2 * 0 + _ ≤ _; exact Nat.le_of_eq rfl) (hb hby d3_1) (fun _ _ => ⟨rfl, e0, (by decide : 0 + 0 ≤ _), (by decide : 0 + 0 ≤ _)⟩)
  dsimp only [Pt.U, Pt.locs, Pt.cells, Pt.slots] at X4 l4 y4 z4 st4 hQ4
  subst l4 y4 z4
  obtain ⟨rfl, N4q, eh4⟩ := hQ4
  have N4 := Fr.app N0 N4q
  obtain ⟨T5, h5, X5, e5, W5, st5⟩ := putF X4 hx hZ hown (host := "") (Or.inl (hw _ (List.mem_of_getElem? (i := 23) rfl))) Via.refl eh4 F_request_a1 E_a1 (Or.inr ⟨(hw _ (List.mem_of_getElem? (i := 24) rfl)), rfl, hnm⟩) (hw _ (List.mem_of_getElem? (i := 10) rfl)) (ty := (.array .byte)) (by decide) rfl rfl (g := (mkF m 6 #[.val (.ref a1), .val (.ref a2), .val (.ref a3), .val .null] [(.ref a2), (.ref a1)])) rfl rfl (hb hby d3_6)
  have Fw5 := F_request_a1.same W5      -- the field now holds (.ref a2)
  have K5 : Keep h0 h5 [a1] := (Keep.refl h0 [a1]).wr W5 (Or.inl (List.mem_of_getElem? (i := 0) rfl))
  have N5 := Fr.snoc X5 N4 g_a1
  obtain ⟨T6, h6, X6, e6, W6, st6⟩ := putF X5 hx hZ hown (host := "") (Or.inl (hw _ (List.mem_of_getElem? (i := 25) rfl))) Via.refl e5 (F_head_a1.other W5 (Or.inr (slot_ne (Or.inr (hw _ (List.mem_of_getElem? (i := 26) rfl))) (Or.inr (hw _ (List.mem_of_getElem? (i := 24) rfl))) (by decide) (t := (.array .byte)) (t' := (.array .byte)) (by decide) (by decide)))) (E_a1.wr W5) (Or.inr ⟨(hw _ (List.mem_of_getElem? (i := 26) rfl)), rfl, hnm⟩) (hw _ (List.mem_of_getElem? (i := 10) rfl)) (ty := (.array .byte)) (by decide) rfl rfl (g := (mkF m 11 #[.val (.ref a1), .val (.ref a2), .val (.ref a3), .val .null] [(.ref a3), (.ref a1)])) rfl rfl (hb hby d3_11)
  have Fw6 := (F_head_a1.other W5 (Or.inr (slot_ne (Or.inr (hw _ (List.mem_of_getElem? (i := 26) rfl))) (Or.inr (hw _ (List.mem_of_getElem? (i := 24) rfl))) (by decide) (t := (.array .byte)) (t' := (.array .byte)) (by decide) (by decide)))).same W6      -- the field now holds (.ref a3)
  have K6 : Keep h0 h6 [a1] := K5.wr W6 (Or.inl (List.mem_of_getElem? (i := 0) rfl))
  have N6 := Fr.snoc X6 N5 g_a1
  obtain ⟨T7, h7, X7, e7, W7, st7⟩ := putF X6 hx hZ hown (host := "") (Or.inl (hw _ (List.mem_of_getElem? (i := 27) rfl))) Via.refl e6 ((F_framedBody_a1.other W5 (Or.inr (slot_ne (Or.inr (hw _ (List.mem_of_getElem? (i := 28) rfl))) (Or.inr (hw _ (List.mem_of_getElem? (i := 24) rfl))) (by decide) (t := (.array .byte)) (t' := (.array .byte)) (by decide) (by decide)))).other W6 (Or.inr (slot_ne (Or.inr (hw _ (List.mem_of_getElem? (i := 28) rfl))) (Or.inr (hw _ (List.mem_of_getElem? (i := 26) rfl))) (by decide) (t := (.array .byte)) (t' := (.array .byte)) (by decide) (by decide)))) ((E_a1.wr W5).wr W6) (Or.inr ⟨(hw _ (List.mem_of_getElem? (i := 28) rfl)), rfl, hnm⟩) (hw _ (List.mem_of_getElem? (i := 10) rfl)) (ty := (.array .byte)) (by decide) rfl rfl (g := (mkF m 16 #[.val (.ref a1), .val (.ref a2), .val (.ref a3), .val .null] [.null, (.ref a1)])) rfl rfl (hb hby d3_16)
  have Fw7 := ((F_framedBody_a1.other W5 (Or.inr (slot_ne (Or.inr (hw _ (List.mem_of_getElem? (i := 28) rfl))) (Or.inr (hw _ (List.mem_of_getElem? (i := 24) rfl))) (by decide) (t := (.array .byte)) (t' := (.array .byte)) (by decide) (by decide)))).other W6 (Or.inr (slot_ne (Or.inr (hw _ (List.mem_of_getElem? (i := 28) rfl))) (Or.inr (hw _ (List.mem_of_getElem? (i := 26) rfl))) (by decide) (t := (.array .byte)) (t' := (.array .byte)) (by decide) (by decide)))).same W7      -- the field now holds .null
  have K7 : Keep h0 h7 [a1] := K6.wr W7 (Or.inl (List.mem_of_getElem? (i := 0) rfl))
  have N7 := Fr.snoc X7 N6 g_a1
  obtain ⟨fs, hr, hrun, hended, hW, hsame⟩ := X7.leave (v := none) (fun _ => rfl)
  refine ⟨_, _, pre0 _ ?_, hrun, hended, _, _, rfl, ?_, ⟨_, rfl⟩, hW, hsame.mono (by decide) (by decide)⟩
  -- 4. STEPS
  · show Steps p.tables e below (s₁.setTop (mkF m 0 #[.val (.ref a1), .val (.ref a2), .val (.ref a3), .val .null] [])) _
    refine XS.aloadN X0.here hx rfl (hb hby d3_0) rfl rfl ?_
    show Steps p.tables e below (s₁.setTop (mkF m 1 #[.val (.ref a1), .val (.ref a2), .val (.ref a3), .val .null] [(.ref a1)])) _
    refine st4.trans ?_
    show Steps p.tables e below (T4.setTop (mkF m 4 #[.val (.ref a1), .val (.ref a2), .val (.ref a3), .val .null] [])) _
    refine XS.aloadN X4.here hx rfl (hb hby d3_4) rfl rfl ?_
    show Steps p.tables e below (T4.setTop (mkF m 5 #[.val (.ref a1), .val (.ref a2), .val (.ref a3), .val .null] [(.ref a1)])) _
    refine XS.aloadN X4.here hx rfl (hb hby d3_5) rfl rfl ?_
    show Steps p.tables e below (T4.setTop (mkF m 6 #[.val (.ref a1), .val (.ref a2), .val (.ref a3), .val .null] [(.ref a2), (.ref a1)])) _
    refine st5 _ ?_
    show Steps p.tables e below (T5.setTop (mkF m 9 #[.val (.ref a1), .val (.ref a2), .val (.ref a3), .val .null] [])) _
    refine XS.aloadN X5.here hx rfl (hb hby d3_9) rfl rfl ?_
    show Steps p.tables e below (T5.setTop (mkF m 10 #[.val (.ref a1), .val (.ref a2), .val (.ref a3), .val .null] [(.ref a1)])) _
    refine XS.aloadN X5.here hx rfl (hb hby d3_10) rfl rfl ?_
    show Steps p.tables e below (T5.setTop (mkF m 11 #[.val (.ref a1), .val (.ref a2), .val (.ref a3), .val .null] [(.ref a3), (.ref a1)])) _
    refine st6 _ ?_
    show Steps p.tables e below (T6.setTop (mkF m 14 #[.val (.ref a1), .val (.ref a2), .val (.ref a3), .val .null] [])) _
    refine XS.aloadN X6.here hx rfl (hb hby d3_14) rfl rfl ?_
    show Steps p.tables e below (T6.setTop (mkF m 15 #[.val (.ref a1), .val (.ref a2), .val (.ref a3), .val .null] [(.ref a1)])) _
    refine XS.aloadN X6.here hx rfl (hb hby d3_15) rfl rfl ?_
    show Steps p.tables e below (T6.setTop (mkF m 16 #[.val (.ref a1), .val (.ref a2), .val (.ref a3), .val .null] [.null, (.ref a1)])) _
    refine st7 _ ?_
    show Steps p.tables e below (T7.setTop (mkF m 19 #[.val (.ref a1), .val (.ref a2), .val (.ref a3), .val .null] [])) _
    exact X7.returnOut hx Bd.returns (hb hby d3_19) hr
  · show QC Z a1 a2 a3 .null h0 n0 _ T7.heap _
    rw [e7]
    exact ⟨rfl, N7, K7, (((E_a1.wr W5).wr W6).wr W7), ((Fw5.other W6 (Or.inr (slot_ne (Or.inr (hw _ (List.mem_of_getElem? (i := 24) rfl))) (Or.inr (hw _ (List.mem_of_getElem? (i := 26) rfl))) (by decide) (t := (.array .byte)) (t' := (.array .byte)) (by decide) (by decide)))).other W7 (Or.inr (slot_ne (Or.inr (hw _ (List.mem_of_getElem? (i := 24) rfl))) (Or.inr (hw _ (List.mem_of_getElem? (i := 28) rfl))) (by decide) (t := (.array .byte)) (t' := (.array .byte)) (by decide) (by decide)))), (Fw6.other W7 (Or.inr (slot_ne (Or.inr (hw _ (List.mem_of_getElem? (i := 26) rfl))) (Or.inr (hw _ (List.mem_of_getElem? (i := 28) rfl))) (by decide) (t := (.array .byte)) (t' := (.array .byte)) (by decide) (by decide)))), Fw7⟩
def QW (Z : State) (r q : Addr) (h0 : Heap) (n0 : Nat) (v : Option Value) (h : Heap) (L : List Loc) : Prop := ∃ b, v = some (.ref b) ∧ Fr n0 L ∧ b = h0.size ∧ Keep h0 h [] ∧ Exa Z h b "com/example/courteous_crawler/courteouscrawler/core/WireCopy" ∧ Fld Z h b "com/example/courteous_crawler/courteouscrawler/core/WireCopy" "request" "[B" (.ref r) ∧ Fld Z h b "com/example/courteous_crawler/courteouscrawler/core/WireCopy" "head" "[B" (.ref q) ∧ Fld Z h b "com/example/courteous_crawler/courteouscrawler/core/WireCopy" "framedBody" "[B" .null
theorem d6_0 : decode prog_43_method_2_code 0 = .ok (.aload_n 0, 1) := by decide +kernel
theorem d6_1 : decode prog_43_method_2_code 1 = .ok (.getfield 16, 3) := by decide +kernel
theorem d6_4 : decode prog_43_method_2_code 4 = .ok (.ifnonnull 7, 3) := by decide +kernel
theorem d6_11 : decode prog_43_method_2_code 11 = .ok (.new 8, 3) := by decide +kernel
theorem d6_14 : decode prog_43_method_2_code 14 = .ok (.dup, 1) := by decide +kernel
theorem d6_15 : decode prog_43_method_2_code 15 = .ok (.aload_n 0, 1) := by decide +kernel
theorem d6_16 : decode prog_43_method_2_code 16 = .ok (.getfield 7, 3) := by decide +kernel
theorem d6_19 : decode prog_43_method_2_code 19 = .ok (.aload_n 0, 1) := by decide +kernel
theorem d6_20 : decode prog_43_method_2_code 20 = .ok (.getfield 13, 3) := by decide +kernel
theorem d6_23 : decode prog_43_method_2_code 23 = .ok (.aconst_null, 1) := by decide +kernel
theorem d6_24 : decode prog_43_method_2_code 24 = .ok (.invokespecial 19, 3) := by decide +kernel
theorem d6_27 : decode prog_43_method_2_code 27 = .ok (.areturn, 1) := by decide +kernel
theorem pn_6 : plainName "com/example/courteous_crawler/courteouscrawler/core/WireCopy" = true := by first | (simp [plainName, overriddenIn]; done) | decide +kernel
theorem pd_6_2 : parseMethodDescriptor "([B[B[B)V" = some ⟨[(.array .byte), (.array .byte), (.array .byte)], none⟩ := by decide +kernel
theorem ef_6 (m : MethodId) (x0 : Addr) : entryFrame m #[(.ref x0)] 1 = mkF m 0 #[.val (.ref x0)] [] := by first | (simp [entryFrame, mkF, argsToLocals, Value.category]; done) | rfl
set_option maxRecDepth 65536 in
set_option maxHeartbeats 40000000 in
theorem rm6 (l : Launch) (Z : State) (a0 : Array Value) (hw : ∀ d ∈ tables_1, d.before a0 Z = true) (ws : List Jvm.Cond) (a1 : Addr) (w2 : Addr) (w5 : Addr) (w7 : Addr) (h0 : Heap) (n0 : Nat) (Z0 : n0 ≤ h0.size) (F_framedBody_a1 : Fld Z h0 a1 "com/example/courteous_crawler/courteouscrawler/core/WireCopy" "framedBody" "[B" (.ref w2)) (F_request_a1 : Fld Z h0 a1 "com/example/courteous_crawler/courteouscrawler/core/WireCopy" "request" "[B" (.ref w5)) (F_head_a1 : Fld Z h0 a1 "com/example/courteous_crawler/courteouscrawler/core/WireCopy" "head" "[B" (.ref w7)) :
    MetFree l (⟨"com/example/courteous_crawler/courteouscrawler/core/WireCopy", "withoutBody", "()Lcom/example/courteous_crawler/courteouscrawler/core/WireCopy;"⟩ : MethodName) (head1 (Jvm.Cond.code (⟨"com/example/courteous_crawler/courteouscrawler/core/WireCopy", "withoutBody", "()Lcom/example/courteous_crawler/courteouscrawler/core/WireCopy;"⟩ : MethodName) prog_43_method_2_code 1 (some (.object "com/example/courteous_crawler/courteouscrawler/core/WireCopy")) :: ws) ({ frames := 3, cells := 1, slots := 3, locals := 40 } : Room)) (fun a U => a = #[(.ref a1)] ∧ Z.Warmed39 U.vm ∧ U.heap = h0) (fun _ _ _ _ _ => True) (fun _ U o U' => ∃ v L, o = .returned v ∧ QW Z w5 w7 h0 n0 v U'.heap L ∧ FrameEnd U o U' L ({ frames := 3, cells := 1, slots := 3, locals := 40 } : Room).cells ({ frames := 3, cells := 1, slots := 3, locals := 40 } : Room).slots) := by
  refine MetFree.of_bodySF (plainFor_of_name pn_6) hisR ?_
  intro p e s m args below meth c s₁ Bd hml0 hP hK
  obtain ⟨rfl, hZ, hh⟩ := hP
  have hx := Bd.exec
  have hby := Bd.bytes
  have hml : c.maxLocals = 1 := hml0
  have hown : s.vm.findClass "com/example/courteous_crawler/courteouscrawler/core/WireCopy" = some m.cls := findClass_of_methodNamed Bd.named
  have hnm := (name_of_methodNamed Bd.named Bd.method).1
  have X0 : Stand p l e ({ frames := 3, cells := 1, slots := 3, locals := 40 } : Room) s m #[(.ref a1)] below meth c s₁ [] 0 0 := Stand.of_body Bd
  have e0 : s₁.heap = h0 := by rw [← hh, Bd.state]; rfl
  have N0 := Fr.nil n0
  have pre0 : ∀ t, Steps p.tables e below (s₁.setTop (mkF m 0 #[.val (.ref a1)] [])) t → Steps p.tables e below (s₁.setTop (entryFrame m #[(.ref a1)] 1)) t := fun t k => castTop (ef_6 m a1) k
  -- 3. LAWS
  obtain ⟨T3, X3, e3, st3⟩ := getF X0 hx hZ hown (host := "") (Or.inl (hw _ (List.mem_of_getElem? (i := 27) rfl))) Via.refl e0 F_framedBody_a1 (g := (mkF m 1 #[.val (.ref a1)] [(.ref a1)])) rfl rfl (hb hby d6_1)
  obtain ⟨T4, h4, X4, e4, E4, A4, D4, -, st4⟩ := newO X3 hx hZ hown (hw _ (List.mem_of_getElem? (i := 52) rfl)) (hw _ (List.mem_of_getElem? (i := 10) rfl)) (hw _ (List.mem_of_getElem? (i := 11) rfl)) e3 (g := (mkF m 11 #[.val (.ref a1)] [])) rfl (hb hby d6_11) (by decide) (by decide)
  obtain ⟨b4, g4⟩ : ∃ z, z = h0.size := ⟨_, rfl⟩      -- the fresh object's address
  rw [← g4] at A4 D4 st4      -- A4 : Exa Z h4 b4 "com/example/courteous_crawler/courteouscrawler/core/WireCopy"; E4 : Ext h0 h4 (carries every older fact: .ext E4)
  have F_request_b4 : Fld Z h4 b4 "com/example/courteous_crawler/courteouscrawler/core/WireCopy" "request" "[B" .null := D4 (Or.inr (hw _ (List.mem_of_getElem? (i := 24) rfl))) (ty := (.array .byte)) (by decide)
  have F_head_b4 : Fld Z h4 b4 "com/example/courteous_crawler/courteouscrawler/core/WireCopy" "head" "[B" .null := D4 (Or.inr (hw _ (List.mem_of_getElem? (i := 26) rfl))) (ty := (.array .byte)) (by decide)
  have F_framedBody_b4 : Fld Z h4 b4 "com/example/courteous_crawler/courteouscrawler/core/WireCopy" "framedBody" "[B" .null := D4 (Or.inr (hw _ (List.mem_of_getElem? (i := 28) rfl))) (ty := (.array .byte)) (by decide)
  have E_b4 := A4
  have g_b4 : n0 ≤ b4 := Nat.le_trans Z0 (Nat.le_of_eq g4.symm)
  have sz_b4 : h0.size ≤ b4 := (Nat.le_trans (Keep.refl h0 []).1 (Nat.le_of_eq g4.symm))
  have K4 : Keep h0 h4 [] := (Keep.refl h0 []).ext E4
  obtain ⟨T6, X6, e6, st6⟩ := getF X4 hx hZ hown (host := "") (Or.inl (hw _ (List.mem_of_getElem? (i := 23) rfl))) Via.refl e4 (F_request_a1.ext E4) (g := (mkF m 16 #[.val (.ref a1)] [(.ref a1), (.ref b4), (.ref b4)])) rfl rfl (hb hby d6_16)
  obtain ⟨T8, X8, e8, st8⟩ := getF X6 hx hZ hown (host := "") (Or.inl (hw _ (List.mem_of_getElem? (i := 25) rfl))) Via.refl e6 (F_head_a1.ext E4) (g := (mkF m 20 #[.val (.ref a1)] [(.ref a1), (.ref w5), (.ref b4), (.ref b4)])) rfl rfl (hb hby d6_20)
  -- pc 24: the constructor of com/example/courteous_crawler/courteouscrawler/core/WireCopy by its contract rm3
  obtain ⟨_, _, ⟨T9, L9, k9, n9⟩, -, X9, ⟨Lc9, hQ9, l9, y9, z9⟩, st9⟩ := X8.specialBack hx (y := (⟨"com/example/courteous_crawler/courteouscrawler/core/WireCopy", "<init>", "([B[B[B)V"⟩ : MethodName)) rfl hown (mvT hZ (hw _ (List.mem_of_getElem? (i := 53) rfl))) (mvT hZ (hw _ (List.mem_of_getElem? (i := 13) rfl))) (mvT hZ (hw _ (List.mem_of_getElem? (i := 14) rfl))) (by decide) (backOf (W := 1) (rm3n l Z a0 hw [] b4 w5 w7 .null .null .null h4 n0 (Nat.le_trans Z0 E4.1) E_b4 F_request_b4 g_b4 F_head_b4 F_framedBody_b4) hZ (hw _ (List.mem_of_getElem? (i := 14) rfl)) (hw _ (List.mem_of_getElem? (i := 11) rfl)) (by decide) (by decide)) (g := (mkF m 24 #[.val (.ref a1)] [.null, (.ref w7), (.ref w5), (.ref b4), (.ref b4)])) rfl (by rw [hml]; rfl) (Steps.refl _) (a := b4) (argsL := [(.ref w5), (.ref w7), .null]) (rest := [(.ref b4)]) (lenOf pd_6_2 rfl) rfl (by show 2 * 0 + _ ≤ _; exact Nat.le_of_eq rfl) (hb hby d6_24) (fun _ _ => ⟨rfl, e8, (by decide : 1 + 0 ≤ _), (by decide : 3 + 0 ≤ _)⟩)
  dsimp only [Pt.U, Pt.locs, Pt.cells, Pt.slots] at X9 l9 y9 z9 st9 hQ9
  subst l9 y9 z9
  obtain ⟨rfl, N9q, KQ9', E9q, Fr9q, Fh9q, Fb9q⟩ := hQ9
  have N9 := Fr.app N0 N9q
  have KQ9 : Keep h4 T9.heap [b4] := KQ9'
  have K9 : Keep h0 T9.heap [] := K4.trans KQ9 (allS (Or.inr sz_b4) all0)
  obtain ⟨fs, hr, hrun, hended, hW, hsame⟩ := X9.leave (v := some (.ref b4)) (fun h => by rw [Bd.returns] at h; cases h)
  refine ⟨_, _, pre0 _ ?_, hrun, hended, _, _, rfl, ?_, ⟨_, rfl⟩, hW, hsame.mono (by decide) (by decide)⟩
  -- 4. STEPS
  · show Steps p.tables e below (s₁.setTop (mkF m 0 #[.val (.ref a1)] [])) _
    refine XS.aloadN X0.here hx rfl (hb hby d6_0) rfl rfl ?_
    show Steps p.tables e below (s₁.setTop (mkF m 1 #[.val (.ref a1)] [(.ref a1)])) _
    refine st3 _ ?_
    show Steps p.tables e below (T3.setTop (mkF m 4 #[.val (.ref a1)] [(.ref w2)])) _
    refine XS.ifnonnullYes X3.here hx rfl (pc0 := 4) (pc' := 11) rfl (hb hby d6_4) rfl (by decide) (by decide) ?_
    show Steps p.tables e below (T3.setTop (mkF m 11 #[.val (.ref a1)] [])) _
    refine st4 _ ?_
    show Steps p.tables e below (T4.setTop (mkF m 14 #[.val (.ref a1)] [(.ref b4)])) _
    refine XS.dup X4.here hx rfl (hb hby d6_14) rfl rfl ?_
    show Steps p.tables e below (T4.setTop (mkF m 15 #[.val (.ref a1)] [(.ref b4), (.ref b4)])) _
    refine XS.aloadN X4.here hx rfl (hb hby d6_15) rfl rfl ?_
    show Steps p.tables e below (T4.setTop (mkF m 16 #[.val (.ref a1)] [(.ref a1), (.ref b4), (.ref b4)])) _
    refine st6 _ ?_
    show Steps p.tables e below (T6.setTop (mkF m 19 #[.val (.ref a1)] [(.ref w5), (.ref b4), (.ref b4)])) _
    refine XS.aloadN X6.here hx rfl (hb hby d6_19) rfl rfl ?_
    show Steps p.tables e below (T6.setTop (mkF m 20 #[.val (.ref a1)] [(.ref a1), (.ref w5), (.ref b4), (.ref b4)])) _
    refine st8 _ ?_
    show Steps p.tables e below (T8.setTop (mkF m 23 #[.val (.ref a1)] [(.ref w7), (.ref w5), (.ref b4), (.ref b4)])) _
    refine XS.aconstNull X8.here hx rfl (hb hby d6_23) ?_
    show Steps p.tables e below (T8.setTop (mkF m 24 #[.val (.ref a1)] [.null, (.ref w7), (.ref w5), (.ref b4), (.ref b4)])) _
    refine st9.trans ?_
    show Steps p.tables e below (T9.setTop (mkF m 27 #[.val (.ref a1)] [(.ref b4)])) _
    jvm_step X9.here [X9.here.top, hx, (hb hby d6_27), X9.method', Bd.returns, Value.isRef, FieldType.isReference]
    first | (intro acts; rw [hr _ acts rfl rfl rfl]) | rw [hr _ _ rfl rfl rfl]
    exact Steps.refl _
  · show QW Z w5 w7 h0 n0 _ T9.heap _
    exact ⟨b4, rfl, N9, g4, K9, E9q, Fr9q, Fh9q, Fb9q⟩
theorem d6_7 : decode prog_43_method_2_code 7 = .ok (.aload_n 0, 1) := by decide +kernel
theorem d6_8 : decode prog_43_method_2_code 8 = .ok (.goto 19, 3) := by decide +kernel
set_option maxRecDepth 65536 in
set_option maxHeartbeats 40000000 in
theorem rm6n (l : Launch) (Z : State) (a0 : Array Value) (hw : ∀ d ∈ tables_1, d.before a0 Z = true) (ws : List Jvm.Cond) (a1 : Addr) (h0 : Heap) (n0 : Nat) (Z0 : n0 ≤ h0.size) (F_framedBody_a1 : Fld Z h0 a1 "com/example/courteous_crawler/courteouscrawler/core/WireCopy" "framedBody" "[B" .null) :
    MetFree l (⟨"com/example/courteous_crawler/courteouscrawler/core/WireCopy", "withoutBody", "()Lcom/example/courteous_crawler/courteouscrawler/core/WireCopy;"⟩ : MethodName) (head1 (Jvm.Cond.code (⟨"com/example/courteous_crawler/courteouscrawler/core/WireCopy", "withoutBody", "()Lcom/example/courteous_crawler/courteouscrawler/core/WireCopy;"⟩ : MethodName) prog_43_method_2_code 1 (some (.object "com/example/courteous_crawler/courteouscrawler/core/WireCopy")) :: ws) ({ frames := 0, cells := 0, slots := 0, locals := 0 } : Room)) (fun a U => a = #[(.ref a1)] ∧ Z.Warmed39 U.vm ∧ U.heap = h0) (fun _ _ _ _ _ => True) (fun _ U o U' => ∃ v L, o = .returned v ∧ QV (.ref a1) h0 n0 v U'.heap L ∧ FrameEnd U o U' L ({ frames := 0, cells := 0, slots := 0, locals := 0 } : Room).cells ({ frames := 0, cells := 0, slots := 0, locals := 0 } : Room).slots) := by
  refine MetFree.of_bodySF (plainFor_of_name pn_6) hisR ?_
  intro p e s m args below meth c s₁ Bd hml0 hP hK
  obtain ⟨rfl, hZ, hh⟩ := hP
  have hx := Bd.exec
  have hby := Bd.bytes
  have hml : c.maxLocals = 1 := hml0
  have hown : s.vm.findClass "com/example/courteous_crawler/courteouscrawler/core/WireCopy" = some m.cls := findClass_of_methodNamed Bd.named
  have hnm := (name_of_methodNamed Bd.named Bd.method).1
  have X0 : Stand p l e ({ frames := 0, cells := 0, slots := 0, locals := 0 } : Room) s m #[(.ref a1)] below meth c s₁ [] 0 0 := Stand.of_body Bd
  have e0 : s₁.heap = h0 := by rw [← hh, Bd.state]; rfl
  have N0 := Fr.nil n0
  have pre0 : ∀ t, Steps p.tables e below (s₁.setTop (mkF m 0 #[.val (.ref a1)] [])) t → Steps p.tables e below (s₁.setTop (entryFrame m #[(.ref a1)] 1)) t := fun t k => castTop (ef_6 m a1) k
  -- 3. LAWS
  obtain ⟨T2, X2, e2, st2⟩ := getF X0 hx hZ hown (host := "") (Or.inl (hw _ (List.mem_of_getElem? (i := 27) rfl))) Via.refl e0 F_framedBody_a1 (g := (mkF m 1 #[.val (.ref a1)] [(.ref a1)])) rfl rfl (hb hby d6_1)
  obtain ⟨fs, hr, hrun, hended, hW, hsame⟩ := X2.leave (v := some (.ref a1)) (fun h => by rw [Bd.returns] at h; cases h)
  refine ⟨_, _, pre0 _ ?_, hrun, hended, _, _, rfl, ?_, ⟨_, rfl⟩, hW, hsame.mono (by decide) (by decide)⟩
  -- 4. STEPS
  · show Steps p.tables e below (s₁.setTop (mkF m 0 #[.val (.ref a1)] [])) _
    refine XS.aloadN X0.here hx rfl (hb hby d6_0) rfl rfl ?_
    show Steps p.tables e below (s₁.setTop (mkF m 1 #[.val (.ref a1)] [(.ref a1)])) _
    refine st2 _ ?_
    show Steps p.tables e below (T2.setTop (mkF m 4 #[.val (.ref a1)] [.null])) _
    refine XS.ifnonnullNo X2.here hx rfl (hb hby d6_4) rfl ?_
    show Steps p.tables e below (T2.setTop (mkF m 7 #[.val (.ref a1)] [])) _
    refine XS.aloadN X2.here hx rfl (hb hby d6_7) rfl rfl ?_
    show Steps p.tables e below (T2.setTop (mkF m 8 #[.val (.ref a1)] [(.ref a1)])) _
    refine XS.goto X2.here hx rfl (pc0 := 8) (pc' := 27) rfl (hb hby d6_8) (by decide) (by decide) ?_
    show Steps p.tables e below (T2.setTop (mkF m 27 #[.val (.ref a1)] [(.ref a1)])) _
    jvm_step X2.here [X2.here.top, hx, (hb hby d6_27), X2.method', Bd.returns, Value.isRef, FieldType.isReference]
    first | (intro acts; rw [hr _ acts rfl rfl rfl]) | rw [hr _ _ rfl rfl rfl]
    exact Steps.refl _
  · show QV (.ref a1) h0 n0 _ T2.heap _
    rw [e2]
    exact ⟨rfl, N0, rfl⟩
theorem d7_0 : decode prog_43_method_8_code 0 = .ok (.aload_n 0, 1) := by decide +kernel
theorem d7_1 : decode prog_43_method_8_code 1 = .ok (.getfield 16, 3) := by decide +kernel
theorem d7_4 : decode prog_43_method_8_code 4 = .ok (.areturn, 1) := by decide +kernel
theorem pn_7 : plainName "com/example/courteous_crawler/courteouscrawler/core/WireCopy" = true := by first | (simp [plainName, overriddenIn]; done) | decide +kernel
theorem ef_7 (m : MethodId) (x0 : Addr) : entryFrame m #[(.ref x0)] 1 = mkF m 0 #[.val (.ref x0)] [] := by first | (simp [entryFrame, mkF, argsToLocals, Value.category]; done) | rfl
set_option maxRecDepth 65536 in
set_option maxHeartbeats 40000000 in
theorem rm7 (l : Launch) (Z : State) (a0 : Array Value) (hw : ∀ d ∈ tables_1, d.before a0 Z = true) (ws : List Jvm.Cond) (a1 : Addr) (w2 : Addr) (h0 : Heap) (n0 : Nat) (Z0 : n0 ≤ h0.size) (F_framedBody_a1 : Fld Z h0 a1 "com/example/courteous_crawler/courteouscrawler/core/WireCopy" "framedBody" "[B" (.ref w2)) :
    MetFree l (⟨"com/example/courteous_crawler/courteouscrawler/core/WireCopy", "framedBody", "()[B"⟩ : MethodName) (head1 (Jvm.Cond.code (⟨"com/example/courteous_crawler/courteouscrawler/core/WireCopy", "framedBody", "()[B"⟩ : MethodName) prog_43_method_8_code 1 (some (.array .byte)) :: ws) ({ frames := 0, cells := 0, slots := 0, locals := 0 } : Room)) (fun a U => a = #[(.ref a1)] ∧ Z.Warmed39 U.vm ∧ U.heap = h0) (fun _ _ _ _ _ => True) (fun _ U o U' => ∃ v L, o = .returned v ∧ QV (.ref w2) h0 n0 v U'.heap L ∧ FrameEnd U o U' L ({ frames := 0, cells := 0, slots := 0, locals := 0 } : Room).cells ({ frames := 0, cells := 0, slots := 0, locals := 0 } : Room).slots) := by
  refine MetFree.of_bodySF (plainFor_of_name pn_7) hisR ?_
  intro p e s m args below meth c s₁ Bd hml0 hP hK
  obtain ⟨rfl, hZ, hh⟩ := hP
  have hx := Bd.exec
  have hby := Bd.bytes
  have hml : c.maxLocals = 1 := hml0
  have hown : s.vm.findClass "com/example/courteous_crawler/courteouscrawler/core/WireCopy" = some m.cls := findClass_of_methodNamed Bd.named
  have hnm := (name_of_methodNamed Bd.named Bd.method).1
  have X0 : Stand p l e ({ frames := 0, cells := 0, slots := 0, locals := 0 } : Room) s m #[(.ref a1)] below meth c s₁ [] 0 0 := Stand.of_body Bd
  have e0 : s₁.heap = h0 := by rw [← hh, Bd.state]; rfl
  have N0 := Fr.nil n0
  have pre0 : ∀ t, Steps p.tables e below (s₁.setTop (mkF m 0 #[.val (.ref a1)] [])) t → Steps p.tables e below (s₁.setTop (entryFrame m #[(.ref a1)] 1)) t := fun t k => castTop (ef_7 m a1) k
  -- 3. LAWS
  obtain ⟨T3, X3, e3, st3⟩ := getF X0 hx hZ hown (host := "") (Or.inl (hw _ (List.mem_of_getElem? (i := 27) rfl))) Via.refl e0 F_framedBody_a1 (g := (mkF m 1 #[.val (.ref a1)] [(.ref a1)])) rfl rfl (hb hby d7_1)
  obtain ⟨fs, hr, hrun, hended, hW, hsame⟩ := X3.leave (v := some (.ref w2)) (fun h => by rw [Bd.returns] at h; cases h)
  refine ⟨_, _, pre0 _ ?_, hrun, hended, _, _, rfl, ?_, ⟨_, rfl⟩, hW, hsame.mono (by decide) (by decide)⟩
  -- 4. STEPS
  · show Steps p.tables e below (s₁.setTop (mkF m 0 #[.val (.ref a1)] [])) _
    refine XS.aloadN X0.here hx rfl (hb hby d7_0) rfl rfl ?_
    show Steps p.tables e below (s₁.setTop (mkF m 1 #[.val (.ref a1)] [(.ref a1)])) _
    refine st3 _ ?_
    show Steps p.tables e below (T3.setTop (mkF m 4 #[.val (.ref a1)] [(.ref w2)])) _
    jvm_step X3.here [X3.here.top, hx, (hb hby d7_4), X3.method', Bd.returns, Value.isRef, FieldType.isReference]
    first | (intro acts; rw [hr _ acts rfl rfl rfl]) | rw [hr _ _ rfl rfl rfl]
    exact Steps.refl _
  · show QV (.ref w2) h0 n0 _ T3.heap _
    rw [e3]
    exact ⟨rfl, N0, rfl⟩
set_option maxRecDepth 65536 in
set_option maxHeartbeats 40000000 in
theorem rm7n (l : Launch) (Z : State) (a0 : Array Value) (hw : ∀ d ∈ tables_1, d.before a0 Z = true) (ws : List Jvm.Cond) (a1 : Addr) (h0 : Heap) (n0 : Nat) (Z0 : n0 ≤ h0.size) (F_framedBody_a1 : Fld Z h0 a1 "com/example/courteous_crawler/courteouscrawler/core/WireCopy" "framedBody" "[B" .null) :
    MetFree l (⟨"com/example/courteous_crawler/courteouscrawler/core/WireCopy", "framedBody", "()[B"⟩ : MethodName) (head1 (Jvm.Cond.code (⟨"com/example/courteous_crawler/courteouscrawler/core/WireCopy", "framedBody", "()[B"⟩ : MethodName) prog_43_method_8_code 1 (some (.array .byte)) :: ws) ({ frames := 0, cells := 0, slots := 0, locals := 0 } : Room)) (fun a U => a = #[(.ref a1)] ∧ Z.Warmed39 U.vm ∧ U.heap = h0) (fun _ _ _ _ _ => True) (fun _ U o U' => ∃ v L, o = .returned v ∧ QV .null h0 n0 v U'.heap L ∧ FrameEnd U o U' L ({ frames := 0, cells := 0, slots := 0, locals := 0 } : Room).cells ({ frames := 0, cells := 0, slots := 0, locals := 0 } : Room).slots) := by
  refine MetFree.of_bodySF (plainFor_of_name pn_7) hisR ?_
  intro p e s m args below meth c s₁ Bd hml0 hP hK
  obtain ⟨rfl, hZ, hh⟩ := hP
  have hx := Bd.exec
  have hby := Bd.bytes
  have hml : c.maxLocals = 1 := hml0
  have hown : s.vm.findClass "com/example/courteous_crawler/courteouscrawler/core/WireCopy" = some m.cls := findClass_of_methodNamed Bd.named
  have hnm := (name_of_methodNamed Bd.named Bd.method).1
  have X0 : Stand p l e ({ frames := 0, cells := 0, slots := 0, locals := 0 } : Room) s m #[(.ref a1)] below meth c s₁ [] 0 0 := Stand.of_body Bd
  have e0 : s₁.heap = h0 := by rw [← hh, Bd.state]; rfl
  have N0 := Fr.nil n0
  have pre0 : ∀ t, Steps p.tables e below (s₁.setTop (mkF m 0 #[.val (.ref a1)] [])) t → Steps p.tables e below (s₁.setTop (entryFrame m #[(.ref a1)] 1)) t := fun t k => castTop (ef_7 m a1) k
  -- 3. LAWS
  obtain ⟨T2, X2, e2, st2⟩ := getF X0 hx hZ hown (host := "") (Or.inl (hw _ (List.mem_of_getElem? (i := 27) rfl))) Via.refl e0 F_framedBody_a1 (g := (mkF m 1 #[.val (.ref a1)] [(.ref a1)])) rfl rfl (hb hby d7_1)
  obtain ⟨fs, hr, hrun, hended, hW, hsame⟩ := X2.leave (v := some .null) (fun h => by rw [Bd.returns] at h; cases h)
  refine ⟨_, _, pre0 _ ?_, hrun, hended, _, _, rfl, ?_, ⟨_, rfl⟩, hW, hsame.mono (by decide) (by decide)⟩
  -- 4. STEPS
  · show Steps p.tables e below (s₁.setTop (mkF m 0 #[.val (.ref a1)] [])) _
    refine XS.aloadN X0.here hx rfl (hb hby d7_0) rfl rfl ?_
    show Steps p.tables e below (s₁.setTop (mkF m 1 #[.val (.ref a1)] [(.ref a1)])) _
    refine st2 _ ?_
    show Steps p.tables e below (T2.setTop (mkF m 4 #[.val (.ref a1)] [.null])) _
    jvm_step X2.here [X2.here.top, hx, (hb hby d7_4), X2.method', Bd.returns, Value.isRef, FieldType.isReference]
    first | (intro acts; rw [hr _ acts rfl rfl rfl]) | rw [hr _ _ rfl rfl rfl]
    exact Steps.refl _
  · show QV .null h0 n0 _ T2.heap _
    rw [e2]
    exact ⟨rfl, N0, rfl⟩
theorem d8_0 : decode prog_43_method_6_code 0 = .ok (.aload_n 0, 1) := by decide +kernel
theorem d8_1 : decode prog_43_method_6_code 1 = .ok (.getfield 7, 3) := by decide +kernel
theorem d8_4 : decode prog_43_method_6_code 4 = .ok (.areturn, 1) := by decide +kernel
theorem pn_8 : plainName "com/example/courteous_crawler/courteouscrawler/core/WireCopy" = true := by first | (simp [plainName, overriddenIn]; done) | decide +kernel
theorem ef_8 (m : MethodId) (x0 : Addr) : entryFrame m #[(.ref x0)] 1 = mkF m 0 #[.val (.ref x0)] [] := by first | (simp [entryFrame, mkF, argsToLocals, Value.category]; done) | rfl
set_option maxRecDepth 65536 in
set_option maxHeartbeats 40000000 in
theorem rm8 (l : Launch) (Z : State) (a0 : Array Value) (hw : ∀ d ∈ tables_1, d.before a0 Z = true) (ws : List Jvm.Cond) (a1 : Addr) (w2 : Addr) (h0 : Heap) (n0 : Nat) (Z0 : n0 ≤ h0.size) (F_request_a1 : Fld Z h0 a1 "com/example/courteous_crawler/courteouscrawler/core/WireCopy" "request" "[B" (.ref w2)) :
    MetFree l (⟨"com/example/courteous_crawler/courteouscrawler/core/WireCopy", "request", "()[B"⟩ : MethodName) (head1 (Jvm.Cond.code (⟨"com/example/courteous_crawler/courteouscrawler/core/WireCopy", "request", "()[B"⟩ : MethodName) prog_43_method_6_code 1 (some (.array .byte)) :: ws) ({ frames := 0, cells := 0, slots := 0, locals := 0 } : Room)) (fun a U => a = #[(.ref a1)] ∧ Z.Warmed39 U.vm ∧ U.heap = h0) (fun _ _ _ _ _ => True) (fun _ U o U' => ∃ v L, o = .returned v ∧ QV (.ref w2) h0 n0 v U'.heap L ∧ FrameEnd U o U' L ({ frames := 0, cells := 0, slots := 0, locals := 0 } : Room).cells ({ frames := 0, cells := 0, slots := 0, locals := 0 } : Room).slots) := by
  refine MetFree.of_bodySF (plainFor_of_name pn_8) hisR ?_
  intro p e s m args below meth c s₁ Bd hml0 hP hK
  obtain ⟨rfl, hZ, hh⟩ := hP
  have hx := Bd.exec
  have hby := Bd.bytes
  have hml : c.maxLocals = 1 := hml0
  have hown : s.vm.findClass "com/example/courteous_crawler/courteouscrawler/core/WireCopy" = some m.cls := findClass_of_methodNamed Bd.named
  have hnm := (name_of_methodNamed Bd.named Bd.method).1
  have X0 : Stand p l e ({ frames := 0, cells := 0, slots := 0, locals := 0 } : Room) s m #[(.ref a1)] below meth c s₁ [] 0 0 := Stand.of_body Bd
  have e0 : s₁.heap = h0 := by rw [← hh, Bd.state]; rfl
  have N0 := Fr.nil n0
  have pre0 : ∀ t, Steps p.tables e below (s₁.setTop (mkF m 0 #[.val (.ref a1)] [])) t → Steps p.tables e below (s₁.setTop (entryFrame m #[(.ref a1)] 1)) t := fun t k => castTop (ef_8 m a1) k
  -- 3. LAWS
  obtain ⟨T3, X3, e3, st3⟩ := getF X0 hx hZ hown (host := "") (Or.inl (hw _ (List.mem_of_getElem? (i := 23) rfl))) Via.refl e0 F_request_a1 (g := (mkF m 1 #[.val (.ref a1)] [(.ref a1)])) rfl rfl (hb hby d8_1)
  obtain ⟨fs, hr, hrun, hended, hW, hsame⟩ := X3.leave (v := some (.ref w2)) (fun h => by rw [Bd.returns] at h; cases h)
  refine ⟨_, _, pre0 _ ?_, hrun, hended, _, _, rfl, ?_, ⟨_, rfl⟩, hW, hsame.mono (by decide) (by decide)⟩
  -- 4. STEPS
  · show Steps p.tables e below (s₁.setTop (mkF m 0 #[.val (.ref a1)] [])) _
    refine XS.aloadN X0.here hx rfl (hb hby d8_0) rfl rfl ?_
    show Steps p.tables e below (s₁.setTop (mkF m 1 #[.val (.ref a1)] [(.ref a1)])) _
    refine st3 _ ?_
    show Steps p.tables e below (T3.setTop (mkF m 4 #[.val (.ref a1)] [(.ref w2)])) _
    jvm_step X3.here [X3.here.top, hx, (hb hby d8_4), X3.method', Bd.returns, Value.isRef, FieldType.isReference]
    first | (intro acts; rw [hr _ acts rfl rfl rfl]) | rw [hr _ _ rfl rfl rfl]
    exact Steps.refl _
  · show QV (.ref w2) h0 n0 _ T3.heap _
    rw [e3]
    exact ⟨rfl, N0, rfl⟩
theorem d10_0 : decode prog_43_method_7_code 0 = .ok (.aload_n 0, 1) := by decide +kernel
theorem d10_1 : decode prog_43_method_7_code 1 = .ok (.getfield 13, 3) := by decide +kernel
theorem d10_4 : decode prog_43_method_7_code 4 = .ok (.areturn, 1) := by decide +kernel
theorem pn_10 : plainName "com/example/courteous_crawler/courteouscrawler/core/WireCopy" = true := by first | (simp [plainName, overriddenIn]; done) | decide +kernel
theorem ef_10 (m : MethodId) (x0 : Addr) : entryFrame m #[(.ref x0)] 1 = mkF m 0 #[.val (.ref x0)] [] := by first | (simp [entryFrame, mkF, argsToLocals, Value.category]; done) | rfl
set_option maxRecDepth 65536 in
set_option maxHeartbeats 40000000 in
theorem rm10 (l : Launch) (Z : State) (a0 : Array Value) (hw : ∀ d ∈ tables_1, d.before a0 Z = true) (ws : List Jvm.Cond) (a1 : Addr) (w2 : Addr) (h0 : Heap) (n0 : Nat) (Z0 : n0 ≤ h0.size) (F_head_a1 : Fld Z h0 a1 "com/example/courteous_crawler/courteouscrawler/core/WireCopy" "head" "[B" (.ref w2)) :
    MetFree l (⟨"com/example/courteous_crawler/courteouscrawler/core/WireCopy", "head", "()[B"⟩ : MethodName) (head1 (Jvm.Cond.code (⟨"com/example/courteous_crawler/courteouscrawler/core/WireCopy", "head", "()[B"⟩ : MethodName) prog_43_method_7_code 1 (some (.array .byte)) :: ws) ({ frames := 0, cells := 0, slots := 0, locals := 0 } : Room)) (fun a U => a = #[(.ref a1)] ∧ Z.Warmed39 U.vm ∧ U.heap = h0) (fun _ _ _ _ _ => True) (fun _ U o U' => ∃ v L, o = .returned v ∧ QV (.ref w2) h0 n0 v U'.heap L ∧ FrameEnd U o U' L ({ frames := 0, cells := 0, slots := 0, locals := 0 } : Room).cells ({ frames := 0, cells := 0, slots := 0, locals := 0 } : Room).slots) := by
  refine MetFree.of_bodySF (plainFor_of_name pn_10) hisR ?_
  intro p e s m args below meth c s₁ Bd hml0 hP hK
  obtain ⟨rfl, hZ, hh⟩ := hP
  have hx := Bd.exec
  have hby := Bd.bytes
  have hml : c.maxLocals = 1 := hml0
  have hown : s.vm.findClass "com/example/courteous_crawler/courteouscrawler/core/WireCopy" = some m.cls := findClass_of_methodNamed Bd.named
  have hnm := (name_of_methodNamed Bd.named Bd.method).1
  have X0 : Stand p l e ({ frames := 0, cells := 0, slots := 0, locals := 0 } : Room) s m #[(.ref a1)] below meth c s₁ [] 0 0 := Stand.of_body Bd
  have e0 : s₁.heap = h0 := by rw [← hh, Bd.state]; rfl
  have N0 := Fr.nil n0
  have pre0 : ∀ t, Steps p.tables e below (s₁.setTop (mkF m 0 #[.val (.ref a1)] [])) t → Steps p.tables e below (s₁.setTop (entryFrame m #[(.ref a1)] 1)) t := fun t k => castTop (ef_10 m a1) k
  -- 3. LAWS
  obtain ⟨T3, X3, e3, st3⟩ := getF X0 hx hZ hown (host := "") (Or.inl (hw _ (List.mem_of_getElem? (i := 25) rfl))) Via.refl e0 F_head_a1 (g := (mkF m 1 #[.val (.ref a1)] [(.ref a1)])) rfl rfl (hb hby d10_1)
  obtain ⟨fs, hr, hrun, hended, hW, hsame⟩ := X3.leave (v := some (.ref w2)) (fun h => by rw [Bd.returns] at h; cases h)
  refine ⟨_, _, pre0 _ ?_, hrun, hended, _, _, rfl, ?_, ⟨_, rfl⟩, hW, hsame.mono (by decide) (by decide)⟩
  -- 4. STEPS
  · show Steps p.tables e below (s₁.setTop (mkF m 0 #[.val (.ref a1)] [])) _
    refine XS.aloadN X0.here hx rfl (hb hby d10_0) rfl rfl ?_
    show Steps p.tables e below (s₁.setTop (mkF m 1 #[.val (.ref a1)] [(.ref a1)])) _
    refine st3 _ ?_
    show Steps p.tables e below (T3.setTop (mkF m 4 #[.val (.ref a1)] [(.ref w2)])) _
    jvm_step X3.here [X3.here.top, hx, (hb hby d10_4), X3.method', Bd.returns, Value.isRef, FieldType.isReference]
    first | (intro acts; rw [hr _ acts rfl rfl rfl]) | rw [hr _ _ rfl rfl rfl]
    exact Steps.refl _
  · show QV (.ref w2) h0 n0 _ T3.heap _
    rw [e3]
    exact ⟨rfl, N0, rfl⟩
theorem d9_0 : decode method_3_code 0 = .ok (.aload_n 0, 1) := by decide +kernel
theorem d9_1 : decode method_3_code 1 = .ok (.ifnull 42, 3) := by decide +kernel
theorem d9_4 : decode method_3_code 4 = .ok (.aload_n 0, 1) := by decide +kernel
theorem d9_5 : decode method_3_code 5 = .ok (.arraylength, 1) := by decide +kernel
theorem d9_6 : decode method_3_code 6 = .ok (.iload_n 2, 1) := by decide +kernel
theorem d9_7 : decode method_3_code 7 = .ok (.if_icmp .ne 36, 3) := by decide +kernel
theorem d9_10 : decode method_3_code 10 = .ok (.iload_n 2, 1) := by decide +kernel
theorem d9_11 : decode method_3_code 11 = .ok (.iconst 1, 1) := by decide +kernel
theorem d9_12 : decode method_3_code 12 = .ok (.if_icmp .lt 11, 3) := by decide +kernel
theorem d9_23 : decode method_3_code 23 = .ok (.iload_n 2, 1) := by decide +kernel
theorem d9_24 : decode method_3_code 24 = .ok (.iconst 2, 1) := by decide +kernel
theorem d9_25 : decode method_3_code 25 = .ok (.if_icmp .lt 14, 3) := by decide +kernel
theorem d9_39 : decode method_3_code 39 = .ok (.iconst 1, 1) := by decide +kernel
theorem d9_40 : decode method_3_code 40 = .ok (.goto 4, 3) := by decide +kernel
theorem d9_44 : decode method_3_code 44 = .ok (.ireturn, 1) := by decide +kernel
theorem pn_9 : plainName "com/example/courteous_crawler/courteouscrawler/core/WireCopyWithoutBodyPinLaw" = true := by first | (simp [plainName, overriddenIn]; done) | decide +kernel
theorem ef_9 (m : MethodId) (x0 : Addr) (x1 : Int32) (x2 : Int32) : entryFrame m #[(.ref x0), (.int x1), (.int x2)] 3 = mkF m 0 #[.val (.ref x0), .val (.int x1), .val (.int x2)] [] := by first | (simp [entryFrame, mkF, argsToLocals, Value.category]; done) | rfl
set_option maxRecDepth 65536 in
set_option maxHeartbeats 40000000 in
theorem rm9_fftt (l : Launch) (Z : State) (a0 : Array Value) (hw : ∀ d ∈ tables_1, d.before a0 Z = true) (ws : List Jvm.Cond) (a1 : Addr) (p2 : Int32) (p3 : Int32) (cl_a1 : Cell) (z_a1 : Int32) (h0 : Heap) (n0 : Nat) (Z0 : n0 ≤ h0.size) (Ar_a1 : Arr Z h0 a1 cl_a1 .byte) (S_a1 : cl_a1.slots.size = z_a1.toNatClampNeg) (N_a1 : ¬ z_a1 < 0) (hc7 : z_a1 = p3) (hc12 : p3 < (1 : Int32)) (hc25 : p3 < (2 : Int32)) :
    MetFree l (⟨"com/example/courteous_crawler/courteouscrawler/core/WireCopyWithoutBodyPinLaw", "same", "([BII)Z"⟩ : MethodName) (head1 (Jvm.Cond.code (⟨"com/example/courteous_crawler/courteouscrawler/core/WireCopyWithoutBodyPinLaw", "same", "([BII)Z"⟩ : MethodName) method_3_code 3 (some .boolean) :: ws) ({ frames := 0, cells := 0, slots := 0, locals := 0 } : Room)) (fun a U => a = #[(.ref a1), (.int p2), (.int p3)] ∧ Z.Warmed39 U.vm ∧ U.heap = h0) (fun _ _ _ _ _ => True) (fun _ U o U' => ∃ v L, o = .returned v ∧ QV (.int (1 : Int32)) h0 n0 v U'.heap L ∧ FrameEnd U o U' L ({ frames := 0, cells := 0, slots := 0, locals := 0 } : Room).cells ({ frames := 0, cells := 0, slots := 0, locals := 0 } : Room).slots) := by
  refine MetFree.of_bodySF (plainFor_of_name pn_9) hisR ?_
  intro p e s m args below meth c s₁ Bd hml0 hP hK
  obtain ⟨rfl, hZ, hh⟩ := hP
  have hx := Bd.exec
  have hby := Bd.bytes
  have hml : c.maxLocals = 3 := hml0
  have hown : s.vm.findClass "com/example/courteous_crawler/courteouscrawler/core/WireCopyWithoutBodyPinLaw" = some m.cls := findClass_of_methodNamed Bd.named
  have hnm := (name_of_methodNamed Bd.named Bd.method).1
  have X0 : Stand p l e ({ frames := 0, cells := 0, slots := 0, locals := 0 } : Room) s m #[(.ref a1), (.int p2), (.int p3)] below meth c s₁ [] 0 0 := Stand.of_body Bd
  have e0 : s₁.heap = h0 := by rw [← hh, Bd.state]; rfl
  have N0 := Fr.nil n0
  have pre0 : ∀ t, Steps p.tables e below (s₁.setTop (mkF m 0 #[.val (.ref a1), .val (.int p2), .val (.int p3)] [])) t → Steps p.tables e below (s₁.setTop (entryFrame m #[(.ref a1), (.int p2), (.int p3)] 3)) t := fun t k => castTop (ef_9 m a1 p2 p3) k
  -- 3. LAWS
  obtain ⟨fs, hr, hrun, hended, hW, hsame⟩ := X0.leave (v := some (.int (1 : Int32))) (fun h => by rw [Bd.returns] at h; cases h)
  refine ⟨_, _, pre0 _ ?_, hrun, hended, _, _, rfl, ?_, ⟨_, rfl⟩, hW, hsame.mono (by decide) (by decide)⟩
  -- 4. STEPS
  · show Steps p.tables e below (s₁.setTop (mkF m 0 #[.val (.ref a1), .val (.int p2), .val (.int p3)] [])) _
    refine XS.aloadN X0.here hx rfl (hb hby d9_0) rfl rfl ?_
    show Steps p.tables e below (s₁.setTop (mkF m 1 #[.val (.ref a1), .val (.int p2), .val (.int p3)] [(.ref a1)])) _
    refine XS.ifnullNo X0.here hx rfl (hb hby d9_1) rfl ?_
    show Steps p.tables e below (s₁.setTop (mkF m 4 #[.val (.ref a1), .val (.int p2), .val (.int p3)] [])) _
    refine XS.aloadN X0.here hx rfl (hb hby d9_4) rfl rfl ?_
    show Steps p.tables e below (s₁.setTop (mkF m 5 #[.val (.ref a1), .val (.int p2), .val (.int p3)] [(.ref a1)])) _
    refine X0.arraylength hx (by rw [e0]; exact Ar_a1.1) (State.isArrayOf_alike hZ.alike Ar_a1.2.1) (g := (mkF m 5 #[.val (.ref a1), .val (.int p2), .val (.int p3)] [(.ref a1)])) rfl rfl (hb hby d9_5) _ ?_
    rw [len_of S_a1 N_a1]
    show Steps p.tables e below (s₁.setTop (mkF m 6 #[.val (.ref a1), .val (.int p2), .val (.int p3)] [(.int z_a1)])) _
    refine XS.iloadN X0.here hx rfl (hb hby d9_6) rfl ?_
    show Steps p.tables e below (s₁.setTop (mkF m 7 #[.val (.ref a1), .val (.int p2), .val (.int p3)] [(.int p3), (.int z_a1)])) _
    refine XS.icmpNo X0.here hx rfl (hb hby d9_7) rfl (teq hc7).2 ?_
    show Steps p.tables e below (s₁.setTop (mkF m 10 #[.val (.ref a1), .val (.int p2), .val (.int p3)] [])) _
    refine XS.iloadN X0.here hx rfl (hb hby d9_10) rfl ?_
    show Steps p.tables e below (s₁.setTop (mkF m 11 #[.val (.ref a1), .val (.int p2), .val (.int p3)] [(.int p3)])) _
    refine XS.iconst X0.here hx rfl (hb hby d9_11) ?_
    show Steps p.tables e below (s₁.setTop (mkF m 12 #[.val (.ref a1), .val (.int p2), .val (.int p3)] [(.int (1 : Int32)), (.int p3)])) _
    refine XS.icmpYes X0.here hx rfl (pc0 := 12) (pc' := 23) rfl (hb hby d9_12) rfl (tlt hc12).1 (by decide) (by decide) ?_
    show Steps p.tables e below (s₁.setTop (mkF m 23 #[.val (.ref a1), .val (.int p2), .val (.int p3)] [])) _
    refine XS.iloadN X0.here hx rfl (hb hby d9_23) rfl ?_
    show Steps p.tables e below (s₁.setTop (mkF m 24 #[.val (.ref a1), .val (.int p2), .val (.int p3)] [(.int p3)])) _
    refine XS.iconst X0.here hx rfl (hb hby d9_24) ?_
    show Steps p.tables e below (s₁.setTop (mkF m 25 #[.val (.ref a1), .val (.int p2), .val (.int p3)] [(.int (2 : Int32)), (.int p3)])) _
    refine XS.icmpYes X0.here hx rfl (pc0 := 25) (pc' := 39) rfl (hb hby d9_25) rfl (tlt hc25).1 (by decide) (by decide) ?_
    show Steps p.tables e below (s₁.setTop (mkF m 39 #[.val (.ref a1), .val (.int p2), .val (.int p3)] [])) _
    refine XS.iconst X0.here hx rfl (hb hby d9_39) ?_
    show Steps p.tables e below (s₁.setTop (mkF m 40 #[.val (.ref a1), .val (.int p2), .val (.int p3)] [(.int (1 : Int32))])) _
    refine XS.goto X0.here hx rfl (pc0 := 40) (pc' := 44) rfl (hb hby d9_40) (by decide) (by decide) ?_
    show Steps p.tables e below (s₁.setTop (mkF m 44 #[.val (.ref a1), .val (.int p2), .val (.int p3)] [(.int (1 : Int32))])) _
    exact retN X0 hx (t := .boolean) Bd.returns (by simp) (hb hby d9_44) hr
  · show QV (.int (1 : Int32)) h0 n0 _ s₁.heap _
    rw [e0]
    exact ⟨rfl, N0, rfl⟩
theorem d9_15 : decode method_3_code 15 = .ok (.aload_n 0, 1) := by decide +kernel
theorem d9_16 : decode method_3_code 16 = .ok (.iconst 0, 1) := by decide +kernel
theorem d9_17 : decode method_3_code 17 = .ok (.baload, 1) := by decide +kernel
theorem d9_18 : decode method_3_code 18 = .ok (.iload_n 1, 1) := by decide +kernel
theorem d9_19 : decode method_3_code 19 = .ok (.i2b, 1) := by decide +kernel
theorem d9_20 : decode method_3_code 20 = .ok (.if_icmp .ne 23, 3) := by decide +kernel
set_option maxRecDepth 65536 in
set_option maxHeartbeats 40000000 in
theorem rm9_fffft (l : Launch) (Z : State) (a0 : Array Value) (hw : ∀ d ∈ tables_1, d.before a0 Z = true) (ws : List Jvm.Cond) (a1 : Addr) (p2 : Int32) (p3 : Int32) (cl_a1 : Cell) (z_a1 : Int32) (w4 : Int32) (h0 : Heap) (n0 : Nat) (Z0 : n0 ≤ h0.size) (Ar_a1 : Arr Z h0 a1 cl_a1 .byte) (S_a1 : cl_a1.slots.size = z_a1.toNatClampNeg) (N_a1 : ¬ z_a1 < 0) (hin17 : ¬ ((0 : Int32) < 0 ∨ cl_a1.slots.size ≤ ((0 : Int32)).toNatClampNeg)) (hat17 : cl_a1.slots[((0 : Int32)).toNatClampNeg]? = some (.int w4)) (hc7 : z_a1 = p3) (hc12 : ¬ (p3 < (1 : Int32))) (hc20 : w4 = (p2.toInt8.toInt32)) (hc25 : p3 < (2 : Int32)) :
    MetFree l (⟨"com/example/courteous_crawler/courteouscrawler/core/WireCopyWithoutBodyPinLaw", "same", "([BII)Z"⟩ : MethodName) (head1 (Jvm.Cond.code (⟨"com/example/courteous_crawler/courteouscrawler/core/WireCopyWithoutBodyPinLaw", "same", "([BII)Z"⟩ : MethodName) method_3_code 3 (some .boolean) :: ws) ({ frames := 0, cells := 0, slots := 0, locals := 0 } : Room)) (fun a U => a = #[(.ref a1), (.int p2), (.int p3)] ∧ Z.Warmed39 U.vm ∧ U.heap = h0) (fun _ _ _ _ _ => True) (fun _ U o U' => ∃ v L, o = .returned v ∧ QV (.int (1 : Int32)) h0 n0 v U'.heap L ∧ FrameEnd U o U' L ({ frames := 0, cells := 0, slots := 0, locals := 0 } : Room).cells ({ frames := 0, cells := 0, slots := 0, locals := 0 } : Room).slots) := by
  refine MetFree.of_bodySF (plainFor_of_name pn_9) hisR ?_
  intro p e s m args below meth c s₁ Bd hml0 hP hK
  obtain ⟨rfl, hZ, hh⟩ := hP
  have hx := Bd.exec
  have hby := Bd.bytes
  have hml : c.maxLocals = 3 := hml0
  have hown : s.vm.findClass "com/example/courteous_crawler/courteouscrawler/core/WireCopyWithoutBodyPinLaw" = some m.cls := findClass_of_methodNamed Bd.named
  have hnm := (name_of_methodNamed Bd.named Bd.method).1
  have X0 : Stand p l e ({ frames := 0, cells := 0, slots := 0, locals := 0 } : Room) s m #[(.ref a1), (.int p2), (.int p3)] below meth c s₁ [] 0 0 := Stand.of_body Bd
  have e0 : s₁.heap = h0 := by rw [← hh, Bd.state]; rfl
  have N0 := Fr.nil n0
  have pre0 : ∀ t, Steps p.tables e below (s₁.setTop (mkF m 0 #[.val (.ref a1), .val (.int p2), .val (.int p3)] [])) t → Steps p.tables e below (s₁.setTop (entryFrame m #[(.ref a1), (.int p2), (.int p3)] 3)) t := fun t k => castTop (ef_9 m a1 p2 p3) k
  -- 3. LAWS
  obtain ⟨fs, hr, hrun, hended, hW, hsame⟩ := X0.leave (v := some (.int (1 : Int32))) (fun h => by rw [Bd.returns] at h; cases h)
  refine ⟨_, _, pre0 _ ?_, hrun, hended, _, _, rfl, ?_, ⟨_, rfl⟩, hW, hsame.mono (by decide) (by decide)⟩
  -- 4. STEPS
  · show Steps p.tables e below (s₁.setTop (mkF m 0 #[.val (.ref a1), .val (.int p2), .val (.int p3)] [])) _
    refine XS.aloadN X0.here hx rfl (hb hby d9_0) rfl rfl ?_
    show Steps p.tables e below (s₁.setTop (mkF m 1 #[.val (.ref a1), .val (.int p2), .val (.int p3)] [(.ref a1)])) _
    refine XS.ifnullNo X0.here hx rfl (hb hby d9_1) rfl ?_
    show Steps p.tables e below (s₁.setTop (mkF m 4 #[.val (.ref a1), .val (.int p2), .val (.int p3)] [])) _
    refine XS.aloadN X0.here hx rfl (hb hby d9_4) rfl rfl ?_
    show Steps p.tables e below (s₁.setTop (mkF m 5 #[.val (.ref a1), .val (.int p2), .val (.int p3)] [(.ref a1)])) _
    refine X0.arraylength hx (by rw [e0]; exact Ar_a1.1) (State.isArrayOf_alike hZ.alike Ar_a1.2.1) (g := (mkF m 5 #[.val (.ref a1), .val (.int p2), .val (.int p3)] [(.ref a1)])) rfl rfl (hb hby d9_5) _ ?_
    rw [len_of S_a1 N_a1]
    show Steps p.tables e below (s₁.setTop (mkF m 6 #[.val (.ref a1), .val (.int p2), .val (.int p3)] [(.int z_a1)])) _
    refine XS.iloadN X0.here hx rfl (hb hby d9_6) rfl ?_
    show Steps p.tables e below (s₁.setTop (mkF m 7 #[.val (.ref a1), .val (.int p2), .val (.int p3)] [(.int p3), (.int z_a1)])) _
    refine XS.icmpNo X0.here hx rfl (hb hby d9_7) rfl (teq hc7).2 ?_
    show Steps p.tables e below (s₁.setTop (mkF m 10 #[.val (.ref a1), .val (.int p2), .val (.int p3)] [])) _
    refine XS.iloadN X0.here hx rfl (hb hby d9_10) rfl ?_
    show Steps p.tables e below (s₁.setTop (mkF m 11 #[.val (.ref a1), .val (.int p2), .val (.int p3)] [(.int p3)])) _
    refine XS.iconst X0.here hx rfl (hb hby d9_11) ?_
    show Steps p.tables e below (s₁.setTop (mkF m 12 #[.val (.ref a1), .val (.int p2), .val (.int p3)] [(.int (1 : Int32)), (.int p3)])) _
    refine XS.icmpNo X0.here hx rfl (hb hby d9_12) rfl (flt hc12).1 ?_
    show Steps p.tables e below (s₁.setTop (mkF m 15 #[.val (.ref a1), .val (.int p2), .val (.int p3)] [])) _
    refine XS.aloadN X0.here hx rfl (hb hby d9_15) rfl rfl ?_
    show Steps p.tables e below (s₁.setTop (mkF m 16 #[.val (.ref a1), .val (.int p2), .val (.int p3)] [(.ref a1)])) _
    refine XS.iconst X0.here hx rfl (hb hby d9_16) ?_
    show Steps p.tables e below (s₁.setTop (mkF m 17 #[.val (.ref a1), .val (.int p2), .val (.int p3)] [(.int (0 : Int32)), (.ref a1)])) _
    refine X0.baloadBytes hx (j := (0 : Int32)) (v := (.int w4)) (by rw [e0]; exact Ar_a1.1) (State.isArrayOf_alike hZ.alike Ar_a1.2.1) Ar_a1.2.2 hin17 hat17 (g := (mkF m 17 #[.val (.ref a1), .val (.int p2), .val (.int p3)] [(.int (0 : Int32)), (.ref a1)])) rfl rfl (hb hby d9_17) _ ?_
    show Steps p.tables e below (s₁.setTop (mkF m 18 #[.val (.ref a1), .val (.int p2), .val (.int p3)] [(.int w4)])) _
    refine XS.iloadN X0.here hx rfl (hb hby d9_18) rfl ?_
    show Steps p.tables e below (s₁.setTop (mkF m 19 #[.val (.ref a1), .val (.int p2), .val (.int p3)] [(.int p2), (.int w4)])) _
    refine XS.i2b X0.here hx rfl (hb hby d9_19) rfl ?_
    show Steps p.tables e below (s₁.setTop (mkF m 20 #[.val (.ref a1), .val (.int p2), .val (.int p3)] [(.int (p2.toInt8.toInt32)), (.int w4)])) _
    refine XS.icmpNo X0.here hx rfl (hb hby d9_20) rfl (teq hc20).2 ?_
    show Steps p.tables e below (s₁.setTop (mkF m 23 #[.val (.ref a1), .val (.int p2), .val (.int p3)] [])) _
    refine XS.iloadN X0.here hx rfl (hb hby d9_23) rfl ?_
    show Steps p.tables e below (s₁.setTop (mkF m 24 #[.val (.ref a1), .val (.int p2), .val (.int p3)] [(.int p3)])) _
    refine XS.iconst X0.here hx rfl (hb hby d9_24) ?_
    show Steps p.tables e below (s₁.setTop (mkF m 25 #[.val (.ref a1), .val (.int p2), .val (.int p3)] [(.int (2 : Int32)), (.int p3)])) _
    refine XS.icmpYes X0.here hx rfl (pc0 := 25) (pc' := 39) rfl (hb hby d9_25) rfl (tlt hc25).1 (by decide) (by decide) ?_
    show Steps p.tables e below (s₁.setTop (mkF m 39 #[.val (.ref a1), .val (.int p2), .val (.int p3)] [])) _
    refine XS.iconst X0.here hx rfl (hb hby d9_39) ?_
    show Steps p.tables e below (s₁.setTop (mkF m 40 #[.val (.ref a1), .val (.int p2), .val (.int p3)] [(.int (1 : Int32))])) _
    refine XS.goto X0.here hx rfl (pc0 := 40) (pc' := 44) rfl (hb hby d9_40) (by decide) (by decide) ?_
    show Steps p.tables e below (s₁.setTop (mkF m 44 #[.val (.ref a1), .val (.int p2), .val (.int p3)] [(.int (1 : Int32))])) _
    exact retN X0 hx (t := .boolean) Bd.returns (by simp) (hb hby d9_44) hr
  · show QV (.int (1 : Int32)) h0 n0 _ s₁.heap _
    rw [e0]
    exact ⟨rfl, N0, rfl⟩
theorem d9_28 : decode method_3_code 28 = .ok (.aload_n 0, 1) := by decide +kernel
theorem d9_29 : decode method_3_code 29 = .ok (.iconst 1, 1) := by decide +kernel
theorem d9_30 : decode method_3_code 30 = .ok (.baload, 1) := by decide +kernel
theorem d9_31 : decode method_3_code 31 = .ok (.iload_n 1, 1) := by decide +kernel
theorem d9_32 : decode method_3_code 32 = .ok (.bipush 8, 2) := by decide +kernel
theorem d9_34 : decode method_3_code 34 = .ok (.ishr, 1) := by decide +kernel
theorem d9_35 : decode method_3_code 35 = .ok (.i2b, 1) := by decide +kernel
theorem d9_36 : decode method_3_code 36 = .ok (.if_icmp .ne 7, 3) := by decide +kernel
set_option maxRecDepth 65536 in
set_option maxHeartbeats 40000000 in
theorem rm9_ffffff (l : Launch) (Z : State) (a0 : Array Value) (hw : ∀ d ∈ tables_1, d.before a0 Z = true) (ws : List Jvm.Cond) (a1 : Addr) (p2 : Int32) (p3 : Int32) (cl_a1 : Cell) (z_a1 : Int32) (w4 : Int32) (w5 : Int32) (h0 : Heap) (n0 : Nat) (Z0 : n0 ≤ h0.size) (Ar_a1 : Arr Z h0 a1 cl_a1 .byte) (S_a1 : cl_a1.slots.size = z_a1.toNatClampNeg) (N_a1 : ¬ z_a1 < 0) (hin17 : ¬ ((0 : Int32) < 0 ∨ cl_a1.slots.size ≤ ((0 : Int32)).toNatClampNeg)) (hat17 : cl_a1.slots[((0 : Int32)).toNatClampNeg]? = some (.int w4)) (hin30 : ¬ ((1 : Int32) < 0 ∨ cl_a1.slots.size ≤ ((1 : Int32)).toNatClampNeg)) (hat30 : cl_a1.slots[((1 : Int32)).toNatClampNeg]? = some (.int w5)) (hc7 : z_a1 = p3) (hc12 : ¬ (p3 < (1 : Int32))) (hc20 : w4 = (p2.toInt8.toInt32)) (hc25 : ¬ (p3 < (2 : Int32))) (hc36 : w5 = ((p2 >>> ((8 : Int32) &&& 31)).toInt8.toInt32)) :
    MetFree l (⟨"com/example/courteous_crawler/courteouscrawler/core/WireCopyWithoutBodyPinLaw", "same", "([BII)Z"⟩ : MethodName) (head1 (Jvm.Cond.code (⟨"com/example/courteous_crawler/courteouscrawler/core/WireCopyWithoutBodyPinLaw", "same", "([BII)Z"⟩ : MethodName) method_3_code 3 (some .boolean) :: ws) ({ frames := 0, cells := 0, slots := 0, locals := 0 } : Room)) (fun a U => a = #[(.ref a1), (.int p2), (.int p3)] ∧ Z.Warmed39 U.vm ∧ U.heap = h0) (fun _ _ _ _ _ => True) (fun _ U o U' => ∃ v L, o = .returned v ∧ QV (.int (1 : Int32)) h0 n0 v U'.heap L ∧ FrameEnd U o U' L ({ frames := 0, cells := 0, slots := 0, locals := 0 } : Room).cells ({ frames := 0, cells := 0, slots := 0, locals := 0 } : Room).slots) := by
  refine MetFree.of_bodySF (plainFor_of_name pn_9) hisR ?_
  intro p e s m args below meth c s₁ Bd hml0 hP hK
  obtain ⟨rfl, hZ, hh⟩ := hP
  have hx := Bd.exec
  have hby := Bd.bytes
  have hml : c.maxLocals = 3 := hml0
  have hown : s.vm.findClass "com/example/courteous_crawler/courteouscrawler/core/WireCopyWithoutBodyPinLaw" = some m.cls := findClass_of_methodNamed Bd.named
  have hnm := (name_of_methodNamed Bd.named Bd.method).1
  have X0 : Stand p l e ({ frames := 0, cells := 0, slots := 0, locals := 0 } : Room) s m #[(.ref a1), (.int p2), (.int p3)] below meth c s₁ [] 0 0 := Stand.of_body Bd
  have e0 : s₁.heap = h0 := by rw [← hh, Bd.state]; rfl
  have N0 := Fr.nil n0
  have pre0 : ∀ t, Steps p.tables e below (s₁.setTop (mkF m 0 #[.val (.ref a1), .val (.int p2), .val (.int p3)] [])) t → Steps p.tables e below (s₁.setTop (entryFrame m #[(.ref a1), (.int p2), (.int p3)] 3)) t := fun t k => castTop (ef_9 m a1 p2 p3) k
  -- 3. LAWS
  obtain ⟨fs, hr, hrun, hended, hW, hsame⟩ := X0.leave (v := some (.int (1 : Int32))) (fun h => by rw [Bd.returns] at h; cases h)
  refine ⟨_, _, pre0 _ ?_, hrun, hended, _, _, rfl, ?_, ⟨_, rfl⟩, hW, hsame.mono (by decide) (by decide)⟩
  -- 4. STEPS
  · show Steps p.tables e below (s₁.setTop (mkF m 0 #[.val (.ref a1), .val (.int p2), .val (.int p3)] [])) _
    refine XS.aloadN X0.here hx rfl (hb hby d9_0) rfl rfl ?_
    show Steps p.tables e below (s₁.setTop (mkF m 1 #[.val (.ref a1), .val (.int p2), .val (.int p3)] [(.ref a1)])) _
    refine XS.ifnullNo X0.here hx rfl (hb hby d9_1) rfl ?_
    show Steps p.tables e below (s₁.setTop (mkF m 4 #[.val (.ref a1), .val (.int p2), .val (.int p3)] [])) _
    refine XS.aloadN X0.here hx rfl (hb hby d9_4) rfl rfl ?_
    show Steps p.tables e below (s₁.setTop (mkF m 5 #[.val (.ref a1), .val (.int p2), .val (.int p3)] [(.ref a1)])) _
    refine X0.arraylength hx (by rw [e0]; exact Ar_a1.1) (State.isArrayOf_alike hZ.alike Ar_a1.2.1) (g := (mkF m 5 #[.val (.ref a1), .val (.int p2), .val (.int p3)] [(.ref a1)])) rfl rfl (hb hby d9_5) _ ?_
    rw [len_of S_a1 N_a1]
    show Steps p.tables e below (s₁.setTop (mkF m 6 #[.val (.ref a1), .val (.int p2), .val (.int p3)] [(.int z_a1)])) _
    refine XS.iloadN X0.here hx rfl (hb hby d9_6) rfl ?_
    show Steps p.tables e below (s₁.setTop (mkF m 7 #[.val (.ref a1), .val (.int p2), .val (.int p3)] [(.int p3), (.int z_a1)])) _
    refine XS.icmpNo X0.here hx rfl (hb hby d9_7) rfl (teq hc7).2 ?_
    show Steps p.tables e below (s₁.setTop (mkF m 10 #[.val (.ref a1), .val (.int p2), .val (.int p3)] [])) _
    refine XS.iloadN X0.here hx rfl (hb hby d9_10) rfl ?_
    show Steps p.tables e below (s₁.setTop (mkF m 11 #[.val (.ref a1), .val (.int p2), .val (.int p3)] [(.int p3)])) _
    refine XS.iconst X0.here hx rfl (hb hby d9_11) ?_
    show Steps p.tables e below (s₁.setTop (mkF m 12 #[.val (.ref a1), .val (.int p2), .val (.int p3)] [(.int (1 : Int32)), (.int p3)])) _
    refine XS.icmpNo X0.here hx rfl (hb hby d9_12) rfl (flt hc12).1 ?_
    show Steps p.tables e below (s₁.setTop (mkF m 15 #[.val (.ref a1), .val (.int p2), .val (.int p3)] [])) _
    refine XS.aloadN X0.here hx rfl (hb hby d9_15) rfl rfl ?_
    show Steps p.tables e below (s₁.setTop (mkF m 16 #[.val (.ref a1), .val (.int p2), .val (.int p3)] [(.ref a1)])) _
    refine XS.iconst X0.here hx rfl (hb hby d9_16) ?_
    show Steps p.tables e below (s₁.setTop (mkF m 17 #[.val (.ref a1), .val (.int p2), .val (.int p3)] [(.int (0 : Int32)), (.ref a1)])) _
    refine X0.baloadBytes hx (j := (0 : Int32)) (v := (.int w4)) (by rw [e0]; exact Ar_a1.1) (State.isArrayOf_alike hZ.alike Ar_a1.2.1) Ar_a1.2.2 hin17 hat17 (g := (mkF m 17 #[.val (.ref a1), .val (.int p2), .val (.int p3)] [(.int (0 : Int32)), (.ref a1)])) rfl rfl (hb hby d9_17) _ ?_
    show Steps p.tables e below (s₁.setTop (mkF m 18 #[.val (.ref a1), .val (.int p2), .val (.int p3)] [(.int w4)])) _
    refine XS.iloadN X0.here hx rfl (hb hby d9_18) rfl ?_
    show Steps p.tables e below (s₁.setTop (mkF m 19 #[.val (.ref a1), .val (.int p2), .val (.int p3)] [(.int p2), (.int w4)])) _
    refine XS.i2b X0.here hx rfl (hb hby d9_19) rfl ?_
    show Steps p.tables e below (s₁.setTop (mkF m 20 #[.val (.ref a1), .val (.int p2), .val (.int p3)] [(.int (p2.toInt8.toInt32)), (.int w4)])) _
    refine XS.icmpNo X0.here hx rfl (hb hby d9_20) rfl (teq hc20).2 ?_
    show Steps p.tables e below (s₁.setTop (mkF m 23 #[.val (.ref a1), .val (.int p2), .val (.int p3)] [])) _
    refine XS.iloadN X0.here hx rfl (hb hby d9_23) rfl ?_
    show Steps p.tables e below (s₁.setTop (mkF m 24 #[.val (.ref a1), .val (.int p2), .val (.int p3)] [(.int p3)])) _
    refine XS.iconst X0.here hx rfl (hb hby d9_24) ?_
    show Steps p.tables e below (s₁.setTop (mkF m 25 #[.val (.ref a1), .val (.int p2), .val (.int p3)] [(.int (2 : Int32)), (.int p3)])) _
    refine XS.icmpNo X0.here hx rfl (hb hby d9_25) rfl (flt hc25).1 ?_
    show Steps p.tables e below (s₁.setTop (mkF m 28 #[.val (.ref a1), .val (.int p2), .val (.int p3)] [])) _
    refine XS.aloadN X0.here hx rfl (hb hby d9_28) rfl rfl ?_
    show Steps p.tables e below (s₁.setTop (mkF m 29 #[.val (.ref a1), .val (.int p2), .val (.int p3)] [(.ref a1)])) _
    refine XS.iconst X0.here hx rfl (hb hby d9_29) ?_
    show Steps p.tables e below (s₁.setTop (mkF m 30 #[.val (.ref a1), .val (.int p2), .val (.int p3)] [(.int (1 : Int32)), (.ref a1)])) _
    refine X0.baloadBytes hx (j := (1 : Int32)) (v := (.int w5)) (by rw [e0]; exact Ar_a1.1) (State.isArrayOf_alike hZ.alike Ar_a1.2.1) Ar_a1.2.2 hin30 hat30 (g := (mkF m 30 #[.val (.ref a1), .val (.int p2), .val (.int p3)] [(.int (1 : Int32)), (.ref a1)])) rfl rfl (hb hby d9_30) _ ?_
    show Steps p.tables e below (s₁.setTop (mkF m 31 #[.val (.ref a1), .val (.int p2), .val (.int p3)] [(.int w5)])) _
    refine XS.iloadN X0.here hx rfl (hb hby d9_31) rfl ?_
    show Steps p.tables e below (s₁.setTop (mkF m 32 #[.val (.ref a1), .val (.int p2), .val (.int p3)] [(.int p2), (.int w5)])) _
    refine XS.bipush X0.here hx rfl (hb hby d9_32) ?_
    show Steps p.tables e below (s₁.setTop (mkF m 34 #[.val (.ref a1), .val (.int p2), .val (.int p3)] [(.int (8 : Int32)), (.int p2), (.int w5)])) _
    refine XS.ishr X0.here hx rfl (hb hby d9_34) rfl ?_
    show Steps p.tables e below (s₁.setTop (mkF m 35 #[.val (.ref a1), .val (.int p2), .val (.int p3)] [(.int (p2 >>> ((8 : Int32) &&& 31))), (.int w5)])) _
    refine XS.i2b X0.here hx rfl (hb hby d9_35) rfl ?_
    show Steps p.tables e below (s₁.setTop (mkF m 36 #[.val (.ref a1), .val (.int p2), .val (.int p3)] [(.int ((p2 >>> ((8 : Int32) &&& 31)).toInt8.toInt32)), (.int w5)])) _
    refine XS.icmpNo X0.here hx rfl (hb hby d9_36) rfl (teq hc36).2 ?_
    show Steps p.tables e below (s₁.setTop (mkF m 39 #[.val (.ref a1), .val (.int p2), .val (.int p3)] [])) _
    refine XS.iconst X0.here hx rfl (hb hby d9_39) ?_
    show Steps p.tables e below (s₁.setTop (mkF m 40 #[.val (.ref a1), .val (.int p2), .val (.int p3)] [(.int (1 : Int32))])) _
    refine XS.goto X0.here hx rfl (pc0 := 40) (pc' := 44) rfl (hb hby d9_40) (by decide) (by decide) ?_
    show Steps p.tables e below (s₁.setTop (mkF m 44 #[.val (.ref a1), .val (.int p2), .val (.int p3)] [(.int (1 : Int32))])) _
    exact retN X0 hx (t := .boolean) Bd.returns (by simp) (hb hby d9_44) hr
  · show QV (.int (1 : Int32)) h0 n0 _ s₁.heap _
    rw [e0]
    exact ⟨rfl, N0, rfl⟩
set_option maxRecDepth 65536 in
set_option maxHeartbeats 40000000 in
theorem rm9 (l : Launch) (Z : State) (a0 : Array Value) (hw : ∀ d ∈ tables_1, d.before a0 Z = true) (ws : List Jvm.Cond) (a1 : Addr) (p2 : Int32) (p3 : Int32) (h0 : Heap) (n0 : Nat) (Z0 : n0 ≤ h0.size) (M : Mk Z h0 a1 p2 p3) (hp : p3 = (0 : Int32) ∨ p3 = (1 : Int32) ∨ p3 = (2 : Int32)) :
    MetFree l (⟨"com/example/courteous_crawler/courteouscrawler/core/WireCopyWithoutBodyPinLaw", "same", "([BII)Z"⟩ : MethodName) (head1 (Jvm.Cond.code (⟨"com/example/courteous_crawler/courteouscrawler/core/WireCopyWithoutBodyPinLaw", "same", "([BII)Z"⟩ : MethodName) method_3_code 3 (some .boolean) :: ws) ({ frames := 0, cells := 0, slots := 0, locals := 0 } : Room)) (fun a U => a = #[(.ref a1), (.int p2), (.int p3)] ∧ Z.Warmed39 U.vm ∧ U.heap = h0) (fun _ _ _ _ _ => True) (fun _ U o U' => ∃ v L, o = .returned v ∧ QV (.int (1 : Int32)) h0 n0 v U'.heap L ∧ FrameEnd U o U' L ({ frames := 0, cells := 0, slots := 0, locals := 0 } : Room).cells ({ frames := 0, cells := 0, slots := 0, locals := 0 } : Room).slots) := by
  obtain ⟨c, A, S, N, u0, u1⟩ := M
  rcases hp with rfl | rfl | rfl
  · exact rm9_fftt l Z a0 hw ws a1 p2 _ c _ h0 n0 Z0 A S N rfl (by decide) (by decide)
  · exact rm9_fffft l Z a0 hw ws a1 p2 _ c _ _ h0 n0 Z0 A S N (inb_of S ⟨by decide, by decide⟩) (u0 (by decide)) rfl (by decide) rfl (by decide)
  · exact rm9_ffffff l Z a0 hw ws a1 p2 _ c _ _ _ h0 n0 Z0 A S N (inb_of S ⟨by decide, by decide⟩) (u0 (by decide)) (inb_of S ⟨by decide, by decide⟩) (u1 (by decide)) rfl (by decide) rfl (by decide) rfl
theorem own_len (x : Int32) : fv1 (x &&& (3 : Int32)) (2 : Int32) = (0 : Int32) ∨ fv1 (x &&& (3 : Int32)) (2 : Int32) = (1 : Int32) ∨ fv1 (x &&& (3 : Int32)) (2 : Int32) = (2 : Int32) := by
  have b := c_and x (3 : Int32) (by decide)
  have e3 : (3 : Int32).toInt = 3 := rfl
  have e2 : (2 : Int32).toInt = 2 := rfl
  have e1 : (1 : Int32).toInt = 1 := rfl
  have e0 : (0 : Int32).toInt = 0 := rfl
  unfold fv1
  by_cases h : (2 : Int32) < (x &&& (3 : Int32))
  · rw [if_pos h]; exact Or.inr (Or.inr rfl)
  · rw [if_neg h]
    rw [Int32.lt_iff_toInt_lt] at h
    simp only [← Int32.toInt_inj]
    omega
def QF (n0 : Nat) (v : Option Value) (h : Heap) (L : List Loc) : Prop := v = some (.int (1 : Int32)) ∧ Fr n0 L ∧ True
theorem pn_0 : plainName "com/example/courteous_crawler/courteouscrawler/core/WireCopyWithoutBodyPinLaw" = true := by first | (simp [plainName, overriddenIn]; done) | decide +kernel
theorem pd_0_0 : parseMethodDescriptor "(II)I" = some ⟨[.int, .int], some .int⟩ := by decide +kernel
theorem pd_0_1 : parseMethodDescriptor "(II)[B" = some ⟨[.int, .int], some (.array .byte)⟩ := by decide +kernel
theorem pd_0_2 : parseMethodDescriptor "([B[B[B)V" = some ⟨[(.array .byte), (.array .byte), (.array .byte)], none⟩ := by decide +kernel
theorem pd_0_4 : parseMethodDescriptor "()Lcom/example/courteous_crawler/courteouscrawler/core/WireCopy;" = some ⟨[], some (.object "com/example/courteous_crawler/courteouscrawler/core/WireCopy")⟩ := by decide +kernel
theorem pd_0_5 : parseMethodDescriptor "()[B" = some ⟨[], some (.array .byte)⟩ := by decide +kernel
theorem pd_0_6 : parseMethodDescriptor "([BII)Z" = some ⟨[(.array .byte), .int, .int], some .boolean⟩ := by decide +kernel
theorem ef_0 (m : MethodId) (x0 : Int32) (x1 : Int32) (x2 : Int32) (x3 : Int32) : entryFrame m #[(.int x0), (.int x1), (.int x2), (.int x3)] maxLocals = mkF m 0 #[.val (.int x0), .val (.int x1), .val (.int x2), .val (.int x3), .unset, .unset, .unset, .unset, .unset, .unset, .unset, .unset, .unset, .unset] [] := by first | (simp [entryFrame, mkF, argsToLocals, Value.category, maxLocals]; done) | rfl
set_option maxRecDepth 65536 in
set_option maxHeartbeats 40000000 in
theorem rm0_body (l : Launch) (Z : State) (a0 : Array Value) (hw : ∀ d ∈ tables_1, d.before a0 Z = true) (ws : List Jvm.Cond) (p1 : Int32) (p2 : Int32) (p3 : Int32) (p4 : Int32) (h0 : Heap) (n0 : Nat) (Z0 : n0 ≤ h0.size) (hc37 : ¬ (((p4 >>> ((6 : Int32) &&& 31)) &&& (1 : Int32)) = (0 : Int32))) (hc65 : ¬ ((1 : Int32) = (0 : Int32))) (hc128 : ¬ ((1 : Int32) = (0 : Int32))) (hc142 : ¬ ((1 : Int32) = (0 : Int32))) (hc154 : ¬ ((1 : Int32) = (0 : Int32))) (hc178 : ¬ ((1 : Int32) = (0 : Int32))) (hc192 : ¬ ((1 : Int32) = (0 : Int32))) (hc208 : ¬ ((1 : Int32) = (0 : Int32))) :
    MetFree l x (head1 (Jvm.Cond.code x code maxLocals ret :: ws) room_1) (fun a U => a = #[(.int p1), (.int p2), (.int p3), (.int p4)] ∧ Z.Warmed39 U.vm ∧ U.heap = h0) (fun _ _ _ _ _ => True) (fun _ U o U' => ∃ v L, o = .returned v ∧ QF n0 v U'.heap L ∧ FrameEnd U o U' L room_1.cells room_1.slots) := by
  refine MetFree.of_bodySF (plainFor_of_name pn_0) hisR ?_
  intro p e s m args below meth c s₁ Bd hml0 hP hK
  obtain ⟨rfl, hZ, hh⟩ := hP
  have hx := Bd.exec
  have hby := Bd.bytes
  have hml : c.maxLocals = 14 := hml0
  have hown : s.vm.findClass "com/example/courteous_crawler/courteouscrawler/core/WireCopyWithoutBodyPinLaw" = some m.cls := findClass_of_methodNamed Bd.named
  have hnm := (name_of_methodNamed Bd.named Bd.method).1
  have X0 : Stand p l e room_1 s m #[(.int p1), (.int p2), (.int p3), (.int p4)] below meth c s₁ [] 0 0 := Stand.of_body Bd
  have e0 : s₁.heap = h0 := by rw [← hh, Bd.state]; rfl
  have N0 := Fr.nil n0
  have pre0 : ∀ t, Steps p.tables e below (s₁.setTop (mkF m 0 #[.val (.int p1), .val (.int p2), .val (.int p3), .val (.int p4), .unset, .unset, .unset, .unset, .unset, .unset, .unset, .unset, .unset, .unset] [])) t → Steps p.tables e below (s₁.setTop (entryFrame m #[(.int p1), (.int p2), (.int p3), (.int p4)] maxLocals)) t := fun t k => castTop (ef_0 m p1 p2 p3 p4) k
  -- 3. LAWS
  -- pc 4: java/lang/Math.min by its contract rm1
  obtain ⟨_, _, ⟨T5, L5, k5, n5⟩, -, X5, ⟨Lc5, hQ5, l5, y5, z5⟩, st5⟩ := Jvm.LawKit.callS X0 hx (y := (⟨"java/lang/Math", "min", "(II)I"⟩ : MethodName)) hown (mvT hZ (hw _ (List.mem_of_getElem? (i := 0) rfl))) (mvT hZ (hw _ (List.mem_of_getElem? (i := 1) rfl))) (mvT hZ (hw _ (List.mem_of_getElem? (i := 2) rfl))) (mvT hZ (hw _ (List.mem_of_getElem? (i := 3) rfl))) (by decide) (backOf (W := 0) (rm1 l Z a0 hw [] (p4 &&& (3 : Int32)) (2 : Int32) h0 n0 Z0) hZ (hw _ (List.mem_of_getElem? (i := 3) rfl)) (hw _ (List.mem_of_getElem? (i := 2) rfl)) (by decide) (by decide)) (g := (mkF m 4 #[.val (.int p1), .val (.int p2), .val (.int p3), .val (.int p4), .unset, .unset, .unset, .unset, .unset, .unset, .unset, .unset, .unset, .unset] [(.int (2 : Int32)), (.int (p4 &&& (3 : Int32)))])) rfl (by rw [hml]; rfl) (argsL := [(.int (p4 &&& (3 : Int32))), (.int (2 : Int32))]) (rest := []) (lenOf pd_0_0 rfl) rfl (by show 2 * 0 + _ ≤ _; exact Nat.le_of_eq rfl) (hb hby at_4) (fun _ _ => ⟨rfl, e0, (by decide : 0 + 0 ≤ _), (by decide : 0 + 0 ≤ _)⟩)
  dsimp only [Pt.U, Pt.locs, Pt.cells, Pt.slots] at X5 l5 y5 z5 st5 hQ5
  subst l5 y5 z5
  obtain ⟨rfl, N5q, eh5⟩ := hQ5
  have N5 := Fr.app N0 N5q
  -- pc 15: java/lang/Math.min by its contract rm1
  obtain ⟨_, _, ⟨T6, L6, k6, n6⟩, -, X6, ⟨Lc6, hQ6, l6, y6, z6⟩, st6⟩ := Jvm.LawKit.callS X5 hx (y := (⟨"java/lang/Math", "min", "(II)I"⟩ : MethodName)) hown (mvT hZ (hw _ (List.mem_of_getElem? (i := 0) rfl))) (mvT hZ (hw _ (List.mem_of_getElem? (i := 1) rfl))) (mvT hZ (hw _ (List.mem_of_getElem? (i := 2) rfl))) (mvT hZ (hw _ (List.mem_of_getElem? (i := 3) rfl))) (by decide) (backOf (W := 0) (rm1 l Z a0 hw [] ((p4 >>> ((2 : Int32) &&& 31)) &&& (3 : Int32)) (2 : Int32) h0 n0 Z0) hZ (hw _ (List.mem_of_getElem? (i := 3) rfl)) (hw _ (List.mem_of_getElem? (i := 2) rfl)) (by decide) (by decide)) (g := (mkF m 15 #[.val (.int p1), .val (.int p2), .val (.int p3), .val (.int p4), .val (.int (fv1 (p4 &&& (3 : Int32)) (2 : Int32))), .unset, .unset, .unset, .unset, .unset, .unset, .unset, .unset, .unset] [(.int (2 : Int32)), (.int ((p4 >>> ((2 : Int32) &&& 31)) &&& (3 : Int32)))])) rfl (by rw [hml]; rfl) (argsL := [(.int ((p4 >>> ((2 : Int32) &&& 31)) &&& (3 : Int32))), (.int (2 : Int32))]) (rest := []) (lenOf pd_0_0 rfl) rfl (by show 2 * 0 + _ ≤ _; exact Nat.le_of_eq rfl) (hb hby at_15) (fun _ _ => ⟨rfl, eh5, (by decide : 0 + 0 ≤ _), (by decide : 0 + 0 ≤ _)⟩)
  dsimp only [Pt.U, Pt.locs, Pt.cells, Pt.slots] at X6 l6 y6 z6 st6 hQ6
  subst l6 y6 z6
  obtain ⟨rfl, N6q, eh6⟩ := hQ6
  have N6 := Fr.app N5 N6q
  -- pc 26: java/lang/Math.min by its contract rm1
  obtain ⟨_, _, ⟨T7, L7, k7, n7⟩, -, X7, ⟨Lc7, hQ7, l7, y7, z7⟩, st7⟩ := Jvm.LawKit.callS X6 hx (y := (⟨"java/lang/Math", "min", "(II)I"⟩ : MethodName)) hown (mvT hZ (hw _ (List.mem_of_getElem? (i := 0) rfl))) (mvT hZ (hw _ (List.mem_of_getElem? (i := 1) rfl))) (mvT hZ (hw _ (List.mem_of_getElem? (i := 2) rfl))) (mvT hZ (hw _ (List.mem_of_getElem? (i := 3) rfl))) (by decide) (backOf (W := 0) (rm1 l Z a0 hw [] ((p4 >>> ((4 : Int32) &&& 31)) &&& (3 : Int32)) (2 : Int32) h0 n0 Z0) hZ (hw _ (List.mem_of_getElem? (i := 3) rfl)) (hw _ (List.mem_of_getElem? (i := 2) rfl)) (by decide) (by decide)) (g := (mkF m 26 #[.val (.int p1), .val (.int p2), .val (.int p3), .val (.int p4), .val (.int (fv1 (p4 &&& (3 : Int32)) (2 : Int32))), .val (.int (fv1 ((p4 >>> ((2 : Int32) &&& 31)) &&& (3 : Int32)) (2 : Int32))), .unset, .unset, .unset, .unset, .unset, .unset, .unset, .unset] [(.int (2 : Int32)), (.int ((p4 >>> ((4 : Int32) &&& 31)) &&& (3 : Int32)))])) rfl (by rw [hml]; rfl) (argsL := [(.int ((p4 >>> ((4 : Int32) &&& 31)) &&& (3 : Int32))), (.int (2 : Int32))]) (rest := []) (lenOf pd_0_0 rfl) rfl (by show 2 * 0 + _ ≤ _; exact Nat.le_of_eq rfl) (hb hby at_26) (fun _ _ => ⟨rfl, eh6, (by decide : 0 + 0 ≤ _), (by decide : 0 + 0 ≤ _)⟩)
  dsimp only [Pt.U, Pt.locs, Pt.cells, Pt.slots] at X7 l7 y7 z7 st7 hQ7
  subst l7 y7 z7
  obtain ⟨rfl, N7q, eh7⟩ := hQ7
  have N7 := Fr.app N6 N7q
  -- pc 50: com/example/courteous_crawler/courteouscrawler/core/WireCopyWithoutBodyPinLaw.make by its contract rm2
  obtain ⟨_, _, ⟨T8, L8, k8, n8⟩, -, X8, ⟨Lc8, hQ8, l8, y8, z8⟩, st8⟩ := Jvm.LawKit.callS X7 hx (y := (⟨"com/example/courteous_crawler/courteouscrawler/core/WireCopyWithoutBodyPinLaw", "make", "(II)[B"⟩ : MethodName)) hown (mvT hZ (hw _ (List.mem_of_getElem? (i := 4) rfl))) (mvT hZ (hw _ (List.mem_of_getElem? (i := 5) rfl))) (mvT hZ (hw _ (List.mem_of_getElem? (i := 6) rfl))) (mvT hZ (hw _ (List.mem_of_getElem? (i := 7) rfl))) (by decide) (backOf (W := 0) (rm2 l Z a0 hw [] p1 (fv1 (p4 &&& (3 : Int32)) (2 : Int32)) h0 n0 Z0 (own_len _)) hZ (hw _ (List.mem_of_getElem? (i := 7) rfl)) (hw _ (List.mem_of_getElem? (i := 6) rfl)) (by decide) (by decide)) (g := (mkF m 50 #[.val (.int p1), .val (.int p2), .val (.int p3), .val (.int p4), .val (.int (fv1 (p4 &&& (3 : Int32)) (2 : Int32))), .val (.int (fv1 ((p4 >>> ((2 : Int32) &&& 31)) &&& (3 : Int32)) (2 : Int32))), .val (.int (fv1 ((p4 >>> ((4 : Int32) &&& 31)) &&& (3 : Int32)) (2 : Int32))), .val (.int (1 : Int32)), .unset, .unset, .unset, .unset, .unset, .unset] [(.int (fv1 (p4 &&& (3 : Int32)) (2 : Int32))), (.int p1)])) rfl (by rw [hml]; rfl) (argsL := [(.int p1), (.int (fv1 (p4 &&& (3 : Int32)) (2 : Int32)))]) (rest := []) (lenOf pd_0_1 rfl) rfl (by show 2 * 0 + _ ≤ _; exact Nat.le_of_eq rfl) (hb hby at_50) (fun _ _ => ⟨rfl, eh7, (by decide : 0 + 1 ≤ _), (by decide : 0 + 2 ≤ _)⟩)
  dsimp only [Pt.U, Pt.locs, Pt.cells, Pt.slots] at X8 l8 y8 z8 st8 hQ8
  subst l8 y8 z8
  obtain ⟨b8, rfl, N8q, g8, KQ8', M_b8⟩ := hQ8
  have N8 := Fr.app N7 N8q
  have g_b8 : n0 ≤ b8 := Nat.le_trans Z0 (Nat.le_of_eq g8.symm)
  have sz_b8 : h0.size ≤ b8 := Nat.le_trans (Keep.refl h0 []).1 (Nat.le_of_eq g8.symm)
  have KQ8 : Keep h0 T8.heap [] := KQ8'
  have K8 : Keep h0 T8.heap [] := (Keep.refl h0 []).trans KQ8 all0
  -- pc 58: com/example/courteous_crawler/courteouscrawler/core/WireCopyWithoutBodyPinLaw.make by its contract rm2
  obtain ⟨_, _, ⟨T9, L9, k9, n9⟩, -, X9, ⟨Lc9, hQ9, l9, y9, z9⟩, st9⟩ := Jvm.LawKit.callS X8 hx (y := (⟨"com/example/courteous_crawler/courteouscrawler/core/WireCopyWithoutBodyPinLaw", "make", "(II)[B"⟩ : MethodName)) hown (mvT hZ (hw _ (List.mem_of_getElem? (i := 4) rfl))) (mvT hZ (hw _ (List.mem_of_getElem? (i := 5) rfl))) (mvT hZ (hw _ (List.mem_of_getElem? (i := 6) rfl))) (mvT hZ (hw _ (List.mem_of_getElem? (i := 7) rfl))) (by decide) (backOf (W := 0) (rm2 l Z a0 hw [] p2 (fv1 ((p4 >>> ((2 : Int32) &&& 31)) &&& (3 : Int32)) (2 : Int32)) T8.heap n0 (Nat.le_trans Z0 KQ8.1) (own_len _)) hZ (hw _ (List.mem_of_getElem? (i := 7) rfl)) (hw _ (List.mem_of_getElem? (i := 6) rfl)) (by decide) (by decide)) (g := (mkF m 58 #[.val (.int p1), .val (.int p2), .val (.int p3), .val (.int p4), .val (.int (fv1 (p4 &&& (3 : Int32)) (2 : Int32))), .val (.int (fv1 ((p4 >>> ((2 : Int32) &&& 31)) &&& (3 : Int32)) (2 : Int32))), .val (.int (fv1 ((p4 >>> ((4 : Int32) &&& 31)) &&& (3 : Int32)) (2 : Int32))), .val (.int (1 : Int32)), .val (.ref b8), .unset, .unset, .unset, .unset, .unset] [(.int (fv1 ((p4 >>> ((2 : Int32) &&& 31)) &&& (3 : Int32)) (2 : Int32))), (.int p2)])) rfl (by rw [hml]; rfl) (argsL := [(.int p2), (.int (fv1 ((p4 >>> ((2 : Int32) &&& 31)) &&& (3 : Int32)) (2 : Int32)))]) (rest := []) (lenOf pd_0_1 rfl) rfl (by show 2 * 0 + _ ≤ _; exact Nat.le_of_eq rfl) (hb hby at_58) (fun _ _ => ⟨rfl, rfl, (by decide : 1 + 1 ≤ _), (by decide : 2 + 2 ≤ _)⟩)
  dsimp only [Pt.U, Pt.locs, Pt.cells, Pt.slots] at X9 l9 y9 z9 st9 hQ9
  subst l9 y9 z9
  obtain ⟨b9, rfl, N9q, g9, KQ9', M_b9⟩ := hQ9
  have N9 := Fr.app N8 N9q
  have g_b9 : n0 ≤ b9 := Nat.le_trans (Nat.le_trans Z0 KQ8.1) (Nat.le_of_eq g9.symm)
  have sz_b9 : h0.size ≤ b9 := Nat.le_trans K8.1 (Nat.le_of_eq g9.symm)
  have KQ9 : Keep T8.heap T9.heap [] := KQ9'
  have K9 : Keep h0 T9.heap [] := K8.trans KQ9 all0
  -- pc 71: com/example/courteous_crawler/courteouscrawler/core/WireCopyWithoutBodyPinLaw.make by its contract rm2
  obtain ⟨_, _, ⟨T10, L10, k10, n10⟩, -, X10, ⟨Lc10, hQ10, l10, y10, z10⟩, st10⟩ := Jvm.LawKit.callS X9 hx (y := (⟨"com/example/courteous_crawler/courteouscrawler/core/WireCopyWithoutBodyPinLaw", "make", "(II)[B"⟩ : MethodName)) hown (mvT hZ (hw _ (List.mem_of_getElem? (i := 4) rfl))) (mvT hZ (hw _ (List.mem_of_getElem? (i := 5) rfl))) (mvT hZ (hw _ (List.mem_of_getElem? (i := 6) rfl))) (mvT hZ (hw _ (List.mem_of_getElem? (i := 7) rfl))) (by decide) (backOf (W := 0) (rm2 l Z a0 hw [] p3 (fv1 ((p4 >>> ((4 : Int32) &&& 31)) &&& (3 : Int32)) (2 : Int32)) T9.heap n0 (Nat.le_trans (Nat.le_trans Z0 KQ8.1) KQ9.1) (own_len _)) hZ (hw _ (List.mem_of_getElem? (i := 7) rfl)) (hw _ (List.mem_of_getElem? (i := 6) rfl)) (by decide) (by decide)) (g := (mkF m 71 #[.val (.int p1), .val (.int p2), .val (.int p3), .val (.int p4), .val (.int (fv1 (p4 &&& (3 : Int32)) (2 : Int32))), .val (.int (fv1 ((p4 >>> ((2 : Int32) &&& 31)) &&& (3 : Int32)) (2 : Int32))), .val (.int (fv1 ((p4 >>> ((4 : Int32) &&& 31)) &&& (3 : Int32)) (2 : Int32))), .val (.int (1 : Int32)), .val (.ref b8), .val (.ref b9), .unset, .unset, .unset, .unset] [(.int (fv1 ((p4 >>> ((4 : Int32) &&& 31)) &&& (3 : Int32)) (2 : Int32))), (.int p3)])) rfl (by rw [hml]; rfl) (argsL := [(.int p3), (.int (fv1 ((p4 >>> ((4 : Int32) &&& 31)) &&& (3 : Int32)) (2 : Int32)))]) (rest := []) (lenOf pd_0_1 rfl) rfl (by show 2 * 0 + _ ≤ _; exact Nat.le_of_eq rfl) (hb hby at_71) (fun _ _ => ⟨rfl, rfl, (by decide : 2 + 1 ≤ _), (by decide : 4 + 2 ≤ _)⟩)
  dsimp only [Pt.U, Pt.locs, Pt.cells, Pt.slots] at X10 l10 y10 z10 st10 hQ10
  subst l10 y10 z10
  obtain ⟨b10, rfl, N10q, g10, KQ10', M_b10⟩ := hQ10
  have N10 := Fr.app N9 N10q
  have g_b10 : n0 ≤ b10 := Nat.le_trans (Nat.le_trans (Nat.le_trans Z0 KQ8.1) KQ9.1) (Nat.le_of_eq g10.symm)
  have sz_b10 : h0.size ≤ b10 := Nat.le_trans K9.1 (Nat.le_of_eq g10.symm)
  have KQ10 : Keep T9.heap T10.heap [] := KQ10'
  have K10 : Keep h0 T10.heap [] := K9.trans KQ10 all0
  obtain ⟨T11, h11, X11, e11, E11, A11, D11, -, st11⟩ := newO X10 hx hZ hown (hw _ (List.mem_of_getElem? (i := 9) rfl)) (hw _ (List.mem_of_getElem? (i := 10) rfl)) (hw _ (List.mem_of_getElem? (i := 11) rfl)) rfl (g := (mkF m 80 #[.val (.int p1), .val (.int p2), .val (.int p3), .val (.int p4), .val (.int (fv1 (p4 &&& (3 : Int32)) (2 : Int32))), .val (.int (fv1 ((p4 >>> ((2 : Int32) &&& 31)) &&& (3 : Int32)) (2 : Int32))), .val (.int (fv1 ((p4 >>> ((4 : Int32) &&& 31)) &&& (3 : Int32)) (2 : Int32))), .val (.int (1 : Int32)), .val (.ref b8), .val (.ref b9), .val (.ref b10), .unset, .unset, .unset] [])) rfl (hb hby at_80) (by decide) (by decide)
  obtain ⟨b11, g11⟩ : ∃ z, z = T10.heap.size := ⟨_, rfl⟩      -- the fresh object's address
  rw [← g11] at A11 D11 st11      -- A11 : Exa Z h11 b11 "com/example/courteous_crawler/courteouscrawler/core/WireCopy"; E11 : Ext T10.heap h11 (carries every older fact: .ext E11)
  have F_request_b11 : Fld Z h11 b11 "com/example/courteous_crawler/courteouscrawler/core/WireCopy" "request" "[B" .null := D11 (Or.inr (hw _ (List.mem_of_getElem? (i := 24) rfl))) (ty := (.array .byte)) (by decide)
  have F_head_b11 : Fld Z h11 b11 "com/example/courteous_crawler/courteouscrawler/core/WireCopy" "head" "[B" .null := D11 (Or.inr (hw _ (List.mem_of_getElem? (i := 26) rfl))) (ty := (.array .byte)) (by decide)
  have F_framedBody_b11 : Fld Z h11 b11 "com/example/courteous_crawler/courteouscrawler/core/WireCopy" "framedBody" "[B" .null := D11 (Or.inr (hw _ (List.mem_of_getElem? (i := 28) rfl))) (ty := (.array .byte)) (by decide)
  have E_b11 := A11
  have g_b11 : n0 ≤ b11 := Nat.le_trans (Nat.le_trans (Nat.le_trans (Nat.le_trans Z0 KQ8.1) KQ9.1) KQ10.1) (Nat.le_of_eq g11.symm)
  have sz_b11 : h0.size ≤ b11 := (Nat.le_trans K10.1 (Nat.le_of_eq g11.symm))
  have K11 : Keep h0 h11 [] := K10.ext E11
  -- pc 90: the constructor of com/example/courteous_crawler/courteouscrawler/core/WireCopy by its contract rm3
  obtain ⟨_, _, ⟨T12, L12, k12, n12⟩, -, X12, ⟨Lc12, hQ12, l12, y12, z12⟩, st12⟩ := X11.specialBack hx (y := (⟨"com/example/courteous_crawler/courteouscrawler/core/WireCopy", "<init>", "([B[B[B)V"⟩ : MethodName)) rfl hown (mvT hZ (hw _ (List.mem_of_getElem? (i := 12) rfl))) (mvT hZ (hw _ (List.mem_of_getElem? (i := 13) rfl))) (mvT hZ (hw _ (List.mem_of_getElem? (i := 14) rfl))) (by decide) (backOf (W := 1) (rm3 l Z a0 hw [] b11 b8 b9 b10 .null .null .null h11 n0 (Nat.le_trans (Nat.le_trans (Nat.le_trans (Nat.le_trans Z0 KQ8.1) KQ9.1) KQ10.1) E11.1) E_b11 F_request_b11 g_b11 F_head_b11 F_framedBody_b11) hZ (hw _ (List.mem_of_getElem? (i := 14) rfl)) (hw _ (List.mem_of_getElem? (i := 11) rfl)) (by decide) (by decide)) (g := (mkF m 90 #[.val (.int p1), .val (.int p2), .val (.int p3), .val (.int p4), .val (.int (fv1 (p4 &&& (3 : Int32)) (2 : Int32))), .val (.int (fv1 ((p4 >>> ((2 : Int32) &&& 31)) &&& (3 : Int32)) (2 : Int32))), .val (.int (fv1 ((p4 >>> ((4 : Int32) &&& 31)) &&& (3 : Int32)) (2 : Int32))), .val (.int (1 : Int32)), .val (.ref b8), .val (.ref b9), .val (.ref b10), .unset, .unset, .unset] [(.ref b10), (.ref b9), (.ref b8), (.ref b11), (.ref b11)])) rfl (by rw [hml]; rfl) (Steps.refl _) (a := b11) (argsL := [(.ref b8), (.ref b9), (.ref b10)]) (rest := [(.ref b11)]) (lenOf pd_0_2 rfl) rfl (by show 2 * 0 + _ ≤ _; exact Nat.le_of_eq rfl) (hb hby at_90) (fun _ _ => ⟨rfl, e11, (by decide : 4 + 0 ≤ _), (by decide : 9 + 0 ≤ _)⟩)
  dsimp only [Pt.U, Pt.locs, Pt.cells, Pt.slots] at X12 l12 y12 z12 st12 hQ12
  subst l12 y12 z12
  obtain ⟨rfl, N12q, KQ12', E12q, Fr12q, Fh12q, Fb12q⟩ := hQ12
  have N12 := Fr.app N10 N12q
  have KQ12 : Keep h11 T12.heap [b11] := KQ12'
  have K12 : Keep h0 T12.heap [] := K11.trans KQ12 (allS (Or.inr sz_b11) all0)
  -- pc 97: com/example/courteous_crawler/courteouscrawler/core/WireCopy.withoutBody by the contract of the body that the receiver's class selects, rm6
  obtain ⟨cq13, kq13, q13a, q13b, q13c⟩ := isOf hZ rfl E12q
  obtain ⟨_, _, ⟨T13, L13, k13, n13⟩, -, X13, ⟨Lc13, hQ13, l13, y13, z13⟩, st13⟩ := X12.virtualBack hx (y := (⟨"com/example/courteous_crawler/courteouscrawler/core/WireCopy", "withoutBody", "()Lcom/example/courteous_crawler/courteouscrawler/core/WireCopy;"⟩ : MethodName)) (z := (⟨"com/example/courteous_crawler/courteouscrawler/core/WireCopy", "withoutBody", "()Lcom/example/courteous_crawler/courteouscrawler/core/WireCopy;"⟩ : MethodName)) hown (mvT hZ (hw _ (List.mem_of_getElem? (i := 29) rfl))) (mvT hZ (hw _ (List.mem_of_getElem? (i := 30) rfl))) (notFace_of_selects (args := #[]) (mvT hZ (hw _ (List.mem_of_getElem? (i := 32) rfl)))) (mvT hZ (hw _ (List.mem_of_getElem? (i := 32) rfl))) (mvT hZ (hw _ (List.mem_of_getElem? (i := 31) rfl))) (by decide) (backOf (W := 0) (rm6 l Z a0 hw [] b11 b10 b8 b9 T12.heap n0 (Nat.le_trans (Nat.le_trans (Nat.le_trans (Nat.le_trans (Nat.le_trans Z0 KQ8.1) KQ9.1) KQ10.1) E11.1) KQ12.1) Fb12q Fr12q Fh12q) hZ (hw _ (List.mem_of_getElem? (i := 33) rfl)) (hw _ (List.mem_of_getElem? (i := 11) rfl)) (by decide) (by decide)) q13a q13c (g := (mkF m 97 #[.val (.int p1), .val (.int p2), .val (.int p3), .val (.int p4), .val (.int (fv1 (p4 &&& (3 : Int32)) (2 : Int32))), .val (.int (fv1 ((p4 >>> ((2 : Int32) &&& 31)) &&& (3 : Int32)) (2 : Int32))), .val (.int (fv1 ((p4 >>> ((4 : Int32) &&& 31)) &&& (3 : Int32)) (2 : Int32))), .val (.int (1 : Int32)), .val (.ref b8), .val (.ref b9), .val (.ref b10), .val (.ref b11), .unset, .unset] [(.ref b11)])) rfl (by rw [hml]; rfl) (Steps.refl _) (argsL := []) (rest := []) (lenOf pd_0_4 rfl) rfl (by show 2 * 0 + _ ≤ _; exact Nat.le_of_eq rfl) (hb hby at_97) (fun _ _ => ⟨rfl, rfl, (by decide : 4 + 1 ≤ _), (by decide : 9 + 3 ≤ _)⟩)
  dsimp only [Pt.U, Pt.locs, Pt.cells, Pt.slots] at X13 l13 y13 z13 st13 hQ13
  subst l13 y13 z13
  obtain ⟨b13, rfl, N13q, g13, KQ13', E13q, Fr13q, Fh13q, Fb13q⟩ := hQ13
  have N13 := Fr.app N12 N13q
  have g_b13 : n0 ≤ b13 := Nat.le_trans (Nat.le_trans (Nat.le_trans (Nat.le_trans (Nat.le_trans (Nat.le_trans Z0 KQ8.1) KQ9.1) KQ10.1) E11.1) KQ12.1) (Nat.le_of_eq g13.symm)
  have KQ13 : Keep T12.heap T13.heap [] := KQ13'
  have K13 : Keep h0 T13.heap [] := K12.trans KQ13 all0
  -- pc 111: com/example/courteous_crawler/courteouscrawler/core/WireCopy.framedBody by the contract of the body that the receiver's class selects, rm7
  obtain ⟨cq14, kq14, q14a, q14b, q14c⟩ := isOf hZ rfl E13q
  obtain ⟨_, _, ⟨T14, L14, k14, n14⟩, -, X14, ⟨Lc14, hQ14, l14, y14, z14⟩, st14⟩ := X13.virtualBack hx (y := (⟨"com/example/courteous_crawler/courteouscrawler/core/WireCopy", "framedBody", "()[B"⟩ : MethodName)) (z := (⟨"com/example/courteous_crawler/courteouscrawler/core/WireCopy", "framedBody", "()[B"⟩ : MethodName)) hown (mvT hZ (hw _ (List.mem_of_getElem? (i := 34) rfl))) (mvT hZ (hw _ (List.mem_of_getElem? (i := 35) rfl))) (notFace_of_selects (args := #[]) (mvT hZ (hw _ (List.mem_of_getElem? (i := 37) rfl)))) (mvT hZ (hw _ (List.mem_of_getElem? (i := 37) rfl))) (mvT hZ (hw _ (List.mem_of_getElem? (i := 36) rfl))) (by decide) (backOf (W := 0) (rm7n l Z a0 hw [] b13 T13.heap n0 (Nat.le_trans (Nat.le_trans (Nat.le_trans (Nat.le_trans (Nat.le_trans (Nat.le_trans Z0 KQ8.1) KQ9.1) KQ10.1) E11.1) KQ12.1) KQ13.1) Fb13q) hZ (hw _ (List.mem_of_getElem? (i := 38) rfl)) (hw _ (List.mem_of_getElem? (i := 11) rfl)) (by decide) (by decide)) q14a q14c (g := (mkF m 111 #[.val (.int p1), .val (.int p2), .val (.int p3), .val (.int p4), .val (.int (fv1 (p4 &&& (3 : Int32)) (2 : Int32))), .val (.int (fv1 ((p4 >>> ((2 : Int32) &&& 31)) &&& (3 : Int32)) (2 : Int32))), .val (.int (fv1 ((p4 >>> ((4 : Int32) &&& 31)) &&& (3 : Int32)) (2 : Int32))), .val (.int (1 : Int32)), .val (.ref b8), .val (.ref b9), .val (.ref b10), .val (.ref b11), .val (.ref b13), .unset] [(.ref b13)])) rfl (by rw [hml]; rfl) (Steps.refl _) (argsL := []) (rest := []) (lenOf pd_0_5 rfl) rfl (by show 2 * 0 + _ ≤ _; exact Nat.le_of_eq rfl) (hb hby at_111) (fun _ _ => ⟨rfl, rfl, (by decide : 5 + 0 ≤ _), (by decide : 12 + 0 ≤ _)⟩)
  dsimp only [Pt.U, Pt.locs, Pt.cells, Pt.slots] at X14 l14 y14 z14 st14 hQ14
  subst l14 y14 z14
  obtain ⟨rfl, N14q, eh14⟩ := hQ14
  have N14 := Fr.app N13 N14q
  -- pc 119: com/example/courteous_crawler/courteouscrawler/core/WireCopy.request by the contract of the body that the receiver's class selects, rm8
  obtain ⟨cq15, kq15, q15a, q15b, q15c⟩ := isOf hZ eh14 E13q
  obtain ⟨_, _, ⟨T15, L15, k15, n15⟩, -, X15, ⟨Lc15, hQ15, l15, y15, z15⟩, st15⟩ := X14.virtualBack hx (y := (⟨"com/example/courteous_crawler/courteouscrawler/core/WireCopy", "request", "()[B"⟩ : MethodName)) (z := (⟨"com/example/courteous_crawler/courteouscrawler/core/WireCopy", "request", "()[B"⟩ : MethodName)) hown (mvT hZ (hw _ (List.mem_of_getElem? (i := 39) rfl))) (mvT hZ (hw _ (List.mem_of_getElem? (i := 40) rfl))) (notFace_of_selects (args := #[]) (mvT hZ (hw _ (List.mem_of_getElem? (i := 42) rfl)))) (mvT hZ (hw _ (List.mem_of_getElem? (i := 42) rfl))) (mvT hZ (hw _ (List.mem_of_getElem? (i := 41) rfl))) (by decide) (backOf (W := 0) (rm8 l Z a0 hw [] b13 b8 T13.heap n0 (Nat.le_trans (Nat.le_trans (Nat.le_trans (Nat.le_trans (Nat.le_trans (Nat.le_trans Z0 KQ8.1) KQ9.1) KQ10.1) E11.1) KQ12.1) KQ13.1) Fr13q) hZ (hw _ (List.mem_of_getElem? (i := 43) rfl)) (hw _ (List.mem_of_getElem? (i := 11) rfl)) (by decide) (by decide)) q15a q15c (g := (mkF m 119 #[.val (.int p1), .val (.int p2), .val (.int p3), .val (.int p4), .val (.int (fv1 (p4 &&& (3 : Int32)) (2 : Int32))), .val (.int (fv1 ((p4 >>> ((2 : Int32) &&& 31)) &&& (3 : Int32)) (2 : Int32))), .val (.int (fv1 ((p4 >>> ((4 : Int32) &&& 31)) &&& (3 : Int32)) (2 : Int32))), .val (.int (1 : Int32)), .val (.ref b8), .val (.ref b9), .val (.ref b10), .val (.ref b11), .val (.ref b13), .unset] [(.ref b13)])) rfl (by rw [hml]; rfl) (Steps.refl _) (argsL := []) (rest := []) (lenOf pd_0_5 rfl) rfl (by show 2 * 0 + _ ≤ _; exact Nat.le_of_eq rfl) (hb hby at_119) (fun _ _ => ⟨rfl, eh14, (by decide : 5 + 0 ≤ _), (by decide : 12 + 0 ≤ _)⟩)
  dsimp only [Pt.U, Pt.locs, Pt.cells, Pt.slots] at X15 l15 y15 z15 st15 hQ15
  subst l15 y15 z15
  obtain ⟨rfl, N15q, eh15⟩ := hQ15
  have N15 := Fr.app N14 N15q
  -- pc 125: com/example/courteous_crawler/courteouscrawler/core/WireCopyWithoutBodyPinLaw.same by its contract rm9
  obtain ⟨_, _, ⟨T16, L16, k16, n16⟩, -, X16, ⟨Lc16, hQ16, l16, y16, z16⟩, st16⟩ := Jvm.LawKit.callS X15 hx (y := (⟨"com/example/courteous_crawler/courteouscrawler/core/WireCopyWithoutBodyPinLaw", "same", "([BII)Z"⟩ : MethodName)) hown (mvT hZ (hw _ (List.mem_of_getElem? (i := 44) rfl))) (mvT hZ (hw _ (List.mem_of_getElem? (i := 45) rfl))) (mvT hZ (hw _ (List.mem_of_getElem? (i := 6) rfl))) (mvT hZ (hw _ (List.mem_of_getElem? (i := 46) rfl))) (by decide) (backOf (W := 0) (rm9 l Z a0 hw [] b8 p1 (fv1 (p4 &&& (3 : Int32)) (2 : Int32)) T13.heap n0 (Nat.le_trans (Nat.le_trans (Nat.le_trans (Nat.le_trans (Nat.le_trans (Nat.le_trans Z0 KQ8.1) KQ9.1) KQ10.1) E11.1) KQ12.1) KQ13.1) (((((M_b8.keep KQ9 nin0).keep KQ10 nin0).ext E11).keep KQ12 (ninS (Nat.ne_of_lt (Nat.lt_of_lt_of_le ((M_b8.keep KQ9 nin0).keep KQ10 nin0).lt (Nat.le_of_eq g11.symm))) nin0)).keep KQ13 nin0) (own_len _)) hZ (hw _ (List.mem_of_getElem? (i := 46) rfl)) (hw _ (List.mem_of_getElem? (i := 6) rfl)) (by decide) (by decide)) (g := (mkF m 125 #[.val (.int p1), .val (.int p2), .val (.int p3), .val (.int p4), .val (.int (fv1 (p4 &&& (3 : Int32)) (2 : Int32))), .val (.int (fv1 ((p4 >>> ((2 : Int32) &&& 31)) &&& (3 : Int32)) (2 : Int32))), .val (.int (fv1 ((p4 >>> ((4 : Int32) &&& 31)) &&& (3 : Int32)) (2 : Int32))), .val (.int (1 : Int32)), .val (.ref b8), .val (.ref b9), .val (.ref b10), .val (.ref b11), .val (.ref b13), .unset] [(.int (fv1 (p4 &&& (3 : Int32)) (2 : Int32))), (.int p1), (.ref b8)])) rfl (by rw [hml]; rfl) (argsL := [(.ref b8), (.int p1), (.int (fv1 (p4 &&& (3 : Int32)) (2 : Int32)))]) (rest := []) (lenOf pd_0_6 rfl) rfl (by show 2 * 0 + _ ≤ _; exact Nat.le_of_eq rfl) (hb hby at_125) (fun _ _ => ⟨rfl, eh15, (by decide : 5 + 0 ≤ _), (by decide : 12 + 0 ≤ _)⟩)
  dsimp only [Pt.U, Pt.locs, Pt.cells, Pt.slots] at X16 l16 y16 z16 st16 hQ16
  subst l16 y16 z16
  obtain ⟨rfl, N16q, eh16⟩ := hQ16
  have N16 := Fr.app N15 N16q
  -- pc 133: com/example/courteous_crawler/courteouscrawler/core/WireCopy.head by the contract of the body that the receiver's class selects, rm10
  obtain ⟨cq17, kq17, q17a, q17b, q17c⟩ := isOf hZ eh16 E13q
  obtain ⟨_, _, ⟨T17, L17, k17, n17⟩, -, X17, ⟨Lc17, hQ17, l17, y17, z17⟩, st17⟩ := X16.virtualBack hx (y := (⟨"com/example/courteous_crawler/courteouscrawler/core/WireCopy", "head", "()[B"⟩ : MethodName)) (z := (⟨"com/example/courteous_crawler/courteouscrawler/core/WireCopy", "head", "()[B"⟩ : MethodName)) hown (mvT hZ (hw _ (List.mem_of_getElem? (i := 47) rfl))) (mvT hZ (hw _ (List.mem_of_getElem? (i := 48) rfl))) (notFace_of_selects (args := #[]) (mvT hZ (hw _ (List.mem_of_getElem? (i := 50) rfl)))) (mvT hZ (hw _ (List.mem_of_getElem? (i := 50) rfl))) (mvT hZ (hw _ (List.mem_of_getElem? (i := 49) rfl))) (by decide) (backOf (W := 0) (rm10 l Z a0 hw [] b13 b9 T13.heap n0 (Nat.le_trans (Nat.le_trans (Nat.le_trans (Nat.le_trans (Nat.le_trans (Nat.le_trans Z0 KQ8.1) KQ9.1) KQ10.1) E11.1) KQ12.1) KQ13.1) Fh13q) hZ (hw _ (List.mem_of_getElem? (i := 51) rfl)) (hw _ (List.mem_of_getElem? (i := 11) rfl)) (by decide) (by decide)) q17a q17c (g := (mkF m 133 #[.val (.int p1), .val (.int p2), .val (.int p3), .val (.int p4), .val (.int (fv1 (p4 &&& (3 : Int32)) (2 : Int32))), .val (.int (fv1 ((p4 >>> ((2 : Int32) &&& 31)) &&& (3 : Int32)) (2 : Int32))), .val (.int (fv1 ((p4 >>> ((4 : Int32) &&& 31)) &&& (3 : Int32)) (2 : Int32))), .val (.int (1 : Int32)), .val (.ref b8), .val (.ref b9), .val (.ref b10), .val (.ref b11), .val (.ref b13), .unset] [(.ref b13)])) rfl (by rw [hml]; rfl) (Steps.refl _) (argsL := []) (rest := []) (lenOf pd_0_5 rfl) rfl (by show 2 * 0 + _ ≤ _; exact Nat.le_of_eq rfl) (hb hby at_133) (fun _ _ => ⟨rfl, eh16, (by decide : 5 + 0 ≤ _), (by decide : 12 + 0 ≤ _)⟩)
  dsimp only [Pt.U, Pt.locs, Pt.cells, Pt.slots] at X17 l17 y17 z17 st17 hQ17
  subst l17 y17 z17
  obtain ⟨rfl, N17q, eh17⟩ := hQ17
  have N17 := Fr.app N16 N17q
  -- pc 139: com/example/courteous_crawler/courteouscrawler/core/WireCopyWithoutBodyPinLaw.same by its contract rm9
  obtain ⟨_, _, ⟨T18, L18, k18, n18⟩, -, X18, ⟨Lc18, hQ18, l18, y18, z18⟩, st18⟩ := Jvm.LawKit.callS X17 hx (y := (⟨"com/example/courteous_crawler/courteouscrawler/core/WireCopyWithoutBodyPinLaw", "same", "([BII)Z"⟩ : MethodName)) hown (mvT hZ (hw _ (List.mem_of_getElem? (i := 44) rfl))) (mvT hZ (hw _ (List.mem_of_getElem? (i := 45) rfl))) (mvT hZ (hw _ (List.mem_of_getElem? (i := 6) rfl))) (mvT hZ (hw _ (List.mem_of_getElem? (i := 46) rfl))) (by decide) (backOf (W := 0) (rm9 l Z a0 hw [] b9 p2 (fv1 ((p4 >>> ((2 : Int32) &&& 31)) &&& (3 : Int32)) (2 : Int32)) T13.heap n0 (Nat.le_trans (Nat.le_trans (Nat.le_trans (Nat.le_trans (Nat.le_trans (Nat.le_trans Z0 KQ8.1) KQ9.1) KQ10.1) E11.1) KQ12.1) KQ13.1) ((((M_b9.keep KQ10 nin0).ext E11).keep KQ12 (ninS (Nat.ne_of_lt (Nat.lt_of_lt_of_le (M_b9.keep KQ10 nin0).lt (Nat.le_of_eq g11.symm))) nin0)).keep KQ13 nin0) (own_len _)) hZ (hw _ (List.mem_of_getElem? (i := 46) rfl)) (hw _ (List.mem_of_getElem? (i := 6) rfl)) (by decide) (by decide)) (g := (mkF m 139 #[.val (.int p1), .val (.int p2), .val (.int p3), .val (.int p4), .val (.int (fv1 (p4 &&& (3 : Int32)) (2 : Int32))), .val (.int (fv1 ((p4 >>> ((2 : Int32) &&& 31)) &&& (3 : Int32)) (2 : Int32))), .val (.int (fv1 ((p4 >>> ((4 : Int32) &&& 31)) &&& (3 : Int32)) (2 : Int32))), .val (.int (1 : Int32)), .val (.ref b8), .val (.ref b9), .val (.ref b10), .val (.ref b11), .val (.ref b13), .unset] [(.int (fv1 ((p4 >>> ((2 : Int32) &&& 31)) &&& (3 : Int32)) (2 : Int32))), (.int p2), (.ref b9)])) rfl (by rw [hml]; rfl) (argsL := [(.ref b9), (.int p2), (.int (fv1 ((p4 >>> ((2 : Int32) &&& 31)) &&& (3 : Int32)) (2 : Int32)))]) (rest := []) (lenOf pd_0_6 rfl) rfl (by show 2 * 0 + _ ≤ _; exact Nat.le_of_eq rfl) (hb hby at_139) (fun _ _ => ⟨rfl, eh17, (by decide : 5 + 0 ≤ _), (by decide : 12 + 0 ≤ _)⟩)
  dsimp only [Pt.U, Pt.locs, Pt.cells, Pt.slots] at X18 l18 y18 z18 st18 hQ18
  subst l18 y18 z18
  obtain ⟨rfl, N18q, eh18⟩ := hQ18
  have N18 := Fr.app N17 N18q
  -- pc 159: com/example/courteous_crawler/courteouscrawler/core/WireCopy.framedBody by the contract of the body that the receiver's class selects, rm7
  obtain ⟨cq19, kq19, q19a, q19b, q19c⟩ := isOf hZ eh18 (E12q.keep KQ13)
  obtain ⟨_, _, ⟨T19, L19, k19, n19⟩, -, X19, ⟨Lc19, hQ19, l19, y19, z19⟩, st19⟩ := X18.virtualBack hx (y := (⟨"com/example/courteous_crawler/courteouscrawler/core/WireCopy", "framedBody", "()[B"⟩ : MethodName)) (z := (⟨"com/example/courteous_crawler/courteouscrawler/core/WireCopy", "framedBody", "()[B"⟩ : MethodName)) hown (mvT hZ (hw _ (List.mem_of_getElem? (i := 34) rfl))) (mvT hZ (hw _ (List.mem_of_getElem? (i := 35) rfl))) (notFace_of_selects (args := #[]) (mvT hZ (hw _ (List.mem_of_getElem? (i := 37) rfl)))) (mvT hZ (hw _ (List.mem_of_getElem? (i := 37) rfl))) (mvT hZ (hw _ (List.mem_of_getElem? (i := 36) rfl))) (by decide) (backOf (W := 0) (rm7 l Z a0 hw [] b11 b10 T13.heap n0 (Nat.le_trans (Nat.le_trans (Nat.le_trans (Nat.le_trans (Nat.le_trans (Nat.le_trans Z0 KQ8.1) KQ9.1) KQ10.1) E11.1) KQ12.1) KQ13.1) (Fb12q.keep KQ13 nin0)) hZ (hw _ (List.mem_of_getElem? (i := 38) rfl)) (hw _ (List.mem_of_getElem? (i := 11) rfl)) (by decide) (by decide)) q19a q19c (g := (mkF m 159 #[.val (.int p1), .val (.int p2), .val (.int p3), .val (.int p4), .val (.int (fv1 (p4 &&& (3 : Int32)) (2 : Int32))), .val (.int (fv1 ((p4 >>> ((2 : Int32) &&& 31)) &&& (3 : Int32)) (2 : Int32))), .val (.int (fv1 ((p4 >>> ((4 : Int32) &&& 31)) &&& (3 : Int32)) (2 : Int32))), .val (.int (1 : Int32)), .val (.ref b8), .val (.ref b9), .val (.ref b10), .val (.ref b11), .val (.ref b13), .val (.int (1 : Int32))] [(.ref b11)])) rfl (by rw [hml]; rfl) (Steps.refl _) (argsL := []) (rest := []) (lenOf pd_0_5 rfl) rfl (by show 2 * 0 + _ ≤ _; exact Nat.le_of_eq rfl) (hb hby at_159) (fun _ _ => ⟨rfl, eh18, (by decide : 5 + 0 ≤ _), (by decide : 12 + 0 ≤ _)⟩)
  dsimp only [Pt.U, Pt.locs, Pt.cells, Pt.slots] at X19 l19 y19 z19 st19 hQ19
  subst l19 y19 z19
  obtain ⟨rfl, N19q, eh19⟩ := hQ19
  have N19 := Fr.app N18 N19q
  -- pc 169: com/example/courteous_crawler/courteouscrawler/core/WireCopy.request by the contract of the body that the receiver's class selects, rm8
  obtain ⟨cq20, kq20, q20a, q20b, q20c⟩ := isOf hZ eh19 (E12q.keep KQ13)
  obtain ⟨_, _, ⟨T20, L20, k20, n20⟩, -, X20, ⟨Lc20, hQ20, l20, y20, z20⟩, st20⟩ := X19.virtualBack hx (y := (⟨"com/example/courteous_crawler/courteouscrawler/core/WireCopy", "request", "()[B"⟩ : MethodName)) (z := (⟨"com/example/courteous_crawler/courteouscrawler/core/WireCopy", "request", "()[B"⟩ : MethodName)) hown (mvT hZ (hw _ (List.mem_of_getElem? (i := 39) rfl))) (mvT hZ (hw _ (List.mem_of_getElem? (i := 40) rfl))) (notFace_of_selects (args := #[]) (mvT hZ (hw _ (List.mem_of_getElem? (i := 42) rfl)))) (mvT hZ (hw _ (List.mem_of_getElem? (i := 42) rfl))) (mvT hZ (hw _ (List.mem_of_getElem? (i := 41) rfl))) (by decide) (backOf (W := 0) (rm8 l Z a0 hw [] b11 b8 T13.heap n0 (Nat.le_trans (Nat.le_trans (Nat.le_trans (Nat.le_trans (Nat.le_trans (Nat.le_trans Z0 KQ8.1) KQ9.1) KQ10.1) E11.1) KQ12.1) KQ13.1) (Fr12q.keep KQ13 nin0)) hZ (hw _ (List.mem_of_getElem? (i := 43) rfl)) (hw _ (List.mem_of_getElem? (i := 11) rfl)) (by decide) (by decide)) q20a q20c (g := (mkF m 169 #[.val (.int p1), .val (.int p2), .val (.int p3), .val (.int p4), .val (.int (fv1 (p4 &&& (3 : Int32)) (2 : Int32))), .val (.int (fv1 ((p4 >>> ((2 : Int32) &&& 31)) &&& (3 : Int32)) (2 : Int32))), .val (.int (fv1 ((p4 >>> ((4 : Int32) &&& 31)) &&& (3 : Int32)) (2 : Int32))), .val (.int (1 : Int32)), .val (.ref b8), .val (.ref b9), .val (.ref b10), .val (.ref b11), .val (.ref b13), .val (.int (1 : Int32))] [(.ref b11)])) rfl (by rw [hml]; rfl) (Steps.refl _) (argsL := []) (rest := []) (lenOf pd_0_5 rfl) rfl (by show 2 * 0 + _ ≤ _; exact Nat.le_of_eq rfl) (hb hby at_169) (fun _ _ => ⟨rfl, eh19, (by decide : 5 + 0 ≤ _), (by decide : 12 + 0 ≤ _)⟩)
  dsimp only [Pt.U, Pt.locs, Pt.cells, Pt.slots] at X20 l20 y20 z20 st20 hQ20
  subst l20 y20 z20
  obtain ⟨rfl, N20q, eh20⟩ := hQ20
  have N20 := Fr.app N19 N20q
  -- pc 175: com/example/courteous_crawler/courteouscrawler/core/WireCopyWithoutBodyPinLaw.same by its contract rm9
  obtain ⟨_, _, ⟨T21, L21, k21, n21⟩, -, X21, ⟨Lc21, hQ21, l21, y21, z21⟩, st21⟩ := Jvm.LawKit.callS X20 hx (y := (⟨"com/example/courteous_crawler/courteouscrawler/core/WireCopyWithoutBodyPinLaw", "same", "([BII)Z"⟩ : MethodName)) hown (mvT hZ (hw _ (List.mem_of_getElem? (i := 44) rfl))) (mvT hZ (hw _ (List.mem_of_getElem? (i := 45) rfl))) (mvT hZ (hw _ (List.mem_of_getElem? (i := 6) rfl))) (mvT hZ (hw _ (List.mem_of_getElem? (i := 46) rfl))) (by decide) (backOf (W := 0) (rm9 l Z a0 hw [] b8 p1 (fv1 (p4 &&& (3 : Int32)) (2 : Int32)) T13.heap n0 (Nat.le_trans (Nat.le_trans (Nat.le_trans (Nat.le_trans (Nat.le_trans (Nat.le_trans Z0 KQ8.1) KQ9.1) KQ10.1) E11.1) KQ12.1) KQ13.1) (((((M_b8.keep KQ9 nin0).keep KQ10 nin0).ext E11).keep KQ12 (ninS (Nat.ne_of_lt (Nat.lt_of_lt_of_le ((M_b8.keep KQ9 nin0).keep KQ10 nin0).lt (Nat.le_of_eq g11.symm))) nin0)).keep KQ13 nin0) (own_len _)) hZ (hw _ (List.mem_of_getElem? (i := 46) rfl)) (hw _ (List.mem_of_getElem? (i := 6) rfl)) (by decide) (by decide)) (g := (mkF m 175 #[.val (.int p1), .val (.int p2), .val (.int p3), .val (.int p4), .val (.int (fv1 (p4 &&& (3 : Int32)) (2 : Int32))), .val (.int (fv1 ((p4 >>> ((2 : Int32) &&& 31)) &&& (3 : Int32)) (2 : Int32))), .val (.int (fv1 ((p4 >>> ((4 : Int32) &&& 31)) &&& (3 : Int32)) (2 : Int32))), .val (.int (1 : Int32)), .val (.ref b8), .val (.ref b9), .val (.ref b10), .val (.ref b11), .val (.ref b13), .val (.int (1 : Int32))] [(.int (fv1 (p4 &&& (3 : Int32)) (2 : Int32))), (.int p1), (.ref b8)])) rfl (by rw [hml]; rfl) (argsL := [(.ref b8), (.int p1), (.int (fv1 (p4 &&& (3 : Int32)) (2 : Int32)))]) (rest := []) (lenOf pd_0_6 rfl) rfl (by show 2 * 0 + _ ≤ _; exact Nat.le_of_eq rfl) (hb hby at_175) (fun _ _ => ⟨rfl, eh20, (by decide : 5 + 0 ≤ _), (by decide : 12 + 0 ≤ _)⟩)
  dsimp only [Pt.U, Pt.locs, Pt.cells, Pt.slots] at X21 l21 y21 z21 st21 hQ21
  subst l21 y21 z21
  obtain ⟨rfl, N21q, eh21⟩ := hQ21
  have N21 := Fr.app N20 N21q
  -- pc 183: com/example/courteous_crawler/courteouscrawler/core/WireCopy.head by the contract of the body that the receiver's class selects, rm10
  obtain ⟨cq22, kq22, q22a, q22b, q22c⟩ := isOf hZ eh21 (E12q.keep KQ13)
  obtain ⟨_, _, ⟨T22, L22, k22, n22⟩, -, X22, ⟨Lc22, hQ22, l22, y22, z22⟩, st22⟩ := X21.virtualBack hx (y := (⟨"com/example/courteous_crawler/courteouscrawler/core/WireCopy", "head", "()[B"⟩ : MethodName)) (z := (⟨"com/example/courteous_crawler/courteouscrawler/core/WireCopy", "head", "()[B"⟩ : MethodName)) hown (mvT hZ (hw _ (List.mem_of_getElem? (i := 47) rfl))) (mvT hZ (hw _ (List.mem_of_getElem? (i := 48) rfl))) (notFace_of_selects (args := #[]) (mvT hZ (hw _ (List.mem_of_getElem? (i := 50) rfl)))) (mvT hZ (hw _ (List.mem_of_getElem? (i := 50) rfl))) (mvT hZ (hw _ (List.mem_of_getElem? (i := 49) rfl))) (by decide) (backOf (W := 0) (rm10 l Z a0 hw [] b11 b9 T13.heap n0 (Nat.le_trans (Nat.le_trans (Nat.le_trans (Nat.le_trans (Nat.le_trans (Nat.le_trans Z0 KQ8.1) KQ9.1) KQ10.1) E11.1) KQ12.1) KQ13.1) (Fh12q.keep KQ13 nin0)) hZ (hw _ (List.mem_of_getElem? (i := 51) rfl)) (hw _ (List.mem_of_getElem? (i := 11) rfl)) (by decide) (by decide)) q22a q22c (g := (mkF m 183 #[.val (.int p1), .val (.int p2), .val (.int p3), .val (.int p4), .val (.int (fv1 (p4 &&& (3 : Int32)) (2 : Int32))), .val (.int (fv1 ((p4 >>> ((2 : Int32) &&& 31)) &&& (3 : Int32)) (2 : Int32))), .val (.int (fv1 ((p4 >>> ((4 : Int32) &&& 31)) &&& (3 : Int32)) (2 : Int32))), .val (.int (1 : Int32)), .val (.ref b8), .val (.ref b9), .val (.ref b10), .val (.ref b11), .val (.ref b13), .val (.int (1 : Int32))] [(.ref b11)])) rfl (by rw [hml]; rfl) (Steps.refl _) (argsL := []) (rest := []) (lenOf pd_0_5 rfl) rfl (by show 2 * 0 + _ ≤ _; exact Nat.le_of_eq rfl) (hb hby at_183) (fun _ _ => ⟨rfl, eh21, (by decide : 5 + 0 ≤ _), (by decide : 12 + 0 ≤ _)⟩)
  dsimp only [Pt.U, Pt.locs, Pt.cells, Pt.slots] at X22 l22 y22 z22 st22 hQ22
  subst l22 y22 z22
  obtain ⟨rfl, N22q, eh22⟩ := hQ22
  have N22 := Fr.app N21 N22q
  -- pc 189: com/example/courteous_crawler/courteouscrawler/core/WireCopyWithoutBodyPinLaw.same by its contract rm9
  obtain ⟨_, _, ⟨T23, L23, k23, n23⟩, -, X23, ⟨Lc23, hQ23, l23, y23, z23⟩, st23⟩ := Jvm.LawKit.callS X22 hx (y := (⟨"com/example/courteous_crawler/courteouscrawler/core/WireCopyWithoutBodyPinLaw", "same", "([BII)Z"⟩ : MethodName)) hown (mvT hZ (hw _ (List.mem_of_getElem? (i := 44) rfl))) (mvT hZ (hw _ (List.mem_of_getElem? (i := 45) rfl))) (mvT hZ (hw _ (List.mem_of_getElem? (i := 6) rfl))) (mvT hZ (hw _ (List.mem_of_getElem? (i := 46) rfl))) (by decide) (backOf (W := 0) (rm9 l Z a0 hw [] b9 p2 (fv1 ((p4 >>> ((2 : Int32) &&& 31)) &&& (3 : Int32)) (2 : Int32)) T13.heap n0 (Nat.le_trans (Nat.le_trans (Nat.le_trans (Nat.le_trans (Nat.le_trans (Nat.le_trans Z0 KQ8.1) KQ9.1) KQ10.1) E11.1) KQ12.1) KQ13.1) ((((M_b9.keep KQ10 nin0).ext E11).keep KQ12 (ninS (Nat.ne_of_lt (Nat.lt_of_lt_of_le (M_b9.keep KQ10 nin0).lt (Nat.le_of_eq g11.symm))) nin0)).keep KQ13 nin0) (own_len _)) hZ (hw _ (List.mem_of_getElem? (i := 46) rfl)) (hw _ (List.mem_of_getElem? (i := 6) rfl)) (by decide) (by decide)) (g := (mkF m 189 #[.val (.int p1), .val (.int p2), .val (.int p3), .val (.int p4), .val (.int (fv1 (p4 &&& (3 : Int32)) (2 : Int32))), .val (.int (fv1 ((p4 >>> ((2 : Int32) &&& 31)) &&& (3 : Int32)) (2 : Int32))), .val (.int (fv1 ((p4 >>> ((4 : Int32) &&& 31)) &&& (3 : Int32)) (2 : Int32))), .val (.int (1 : Int32)), .val (.ref b8), .val (.ref b9), .val (.ref b10), .val (.ref b11), .val (.ref b13), .val (.int (1 : Int32))] [(.int (fv1 ((p4 >>> ((2 : Int32) &&& 31)) &&& (3 : Int32)) (2 : Int32))), (.int p2), (.ref b9)])) rfl (by rw [hml]; rfl) (argsL := [(.ref b9), (.int p2), (.int (fv1 ((p4 >>> ((2 : Int32) &&& 31)) &&& (3 : Int32)) (2 : Int32)))]) (rest := []) (lenOf pd_0_6 rfl) rfl (by show 2 * 0 + _ ≤ _; exact Nat.le_of_eq rfl) (hb hby at_189) (fun _ _ => ⟨rfl, eh22, (by decide : 5 + 0 ≤ _), (by decide : 12 + 0 ≤ _)⟩)
  dsimp only [Pt.U, Pt.locs, Pt.cells, Pt.slots] at X23 l23 y23 z23 st23 hQ23
  subst l23 y23 z23
  obtain ⟨rfl, N23q, eh23⟩ := hQ23
  have N23 := Fr.app N22 N23q
  -- pc 205: com/example/courteous_crawler/courteouscrawler/core/WireCopyWithoutBodyPinLaw.same by its contract rm9
  obtain ⟨_, _, ⟨T24, L24, k24, n24⟩, -, X24, ⟨Lc24, hQ24, l24, y24, z24⟩, st24⟩ := Jvm.LawKit.callS X23 hx (y := (⟨"com/example/courteous_crawler/courteouscrawler/core/WireCopyWithoutBodyPinLaw", "same", "([BII)Z"⟩ : MethodName)) hown (mvT hZ (hw _ (List.mem_of_getElem? (i := 44) rfl))) (mvT hZ (hw _ (List.mem_of_getElem? (i := 45) rfl))) (mvT hZ (hw _ (List.mem_of_getElem? (i := 6) rfl))) (mvT hZ (hw _ (List.mem_of_getElem? (i := 46) rfl))) (by decide) (backOf (W := 0) (rm9 l Z a0 hw [] b10 p3 (fv1 ((p4 >>> ((4 : Int32) &&& 31)) &&& (3 : Int32)) (2 : Int32)) T13.heap n0 (Nat.le_trans (Nat.le_trans (Nat.le_trans (Nat.le_trans (Nat.le_trans (Nat.le_trans Z0 KQ8.1) KQ9.1) KQ10.1) E11.1) KQ12.1) KQ13.1) (((M_b10.ext E11).keep KQ12 (ninS (Nat.ne_of_lt (Nat.lt_of_lt_of_le M_b10.lt (Nat.le_of_eq g11.symm))) nin0)).keep KQ13 nin0) (own_len _)) hZ (hw _ (List.mem_of_getElem? (i := 46) rfl)) (hw _ (List.mem_of_getElem? (i := 6) rfl)) (by decide) (by decide)) (g := (mkF m 205 #[.val (.int p1), .val (.int p2), .val (.int p3), .val (.int p4), .val (.int (fv1 (p4 &&& (3 : Int32)) (2 : Int32))), .val (.int (fv1 ((p4 >>> ((2 : Int32) &&& 31)) &&& (3 : Int32)) (2 : Int32))), .val (.int (fv1 ((p4 >>> ((4 : Int32) &&& 31)) &&& (3 : Int32)) (2 : Int32))), .val (.int (1 : Int32)), .val (.ref b8), .val (.ref b9), .val (.ref b10), .val (.ref b11), .val (.ref b13), .val (.int (1 : Int32))] [(.int (fv1 ((p4 >>> ((4 : Int32) &&& 31)) &&& (3 : Int32)) (2 : Int32))), (.int p3), (.ref b10)])) rfl (by rw [hml]; rfl) (argsL := [(.ref b10), (.int p3), (.int (fv1 ((p4 >>> ((4 : Int32) &&& 31)) &&& (3 : Int32)) (2 : Int32)))]) (rest := []) (lenOf pd_0_6 rfl) rfl (by show 2 * 0 + _ ≤ _; exact Nat.le_of_eq rfl) (hb hby at_205) (fun _ _ => ⟨rfl, eh23, (by decide : 5 + 0 ≤ _), (by decide : 12 + 0 ≤ _)⟩)
  dsimp only [Pt.U, Pt.locs, Pt.cells, Pt.slots] at X24 l24 y24 z24 st24 hQ24
  subst l24 y24 z24
  obtain ⟨rfl, N24q, eh24⟩ := hQ24
  have N24 := Fr.app N23 N24q
  obtain ⟨fs, hr, hrun, hended, hW, hsame⟩ := X24.leave (v := some (.int (1 : Int32))) (fun h => by rw [Bd.returns] at h; cases h)
  refine ⟨_, _, pre0 _ ?_, hrun, hended, _, _, rfl, ?_, ⟨_, rfl⟩, hW, hsame.mono (by decide) (by decide)⟩
  -- 4. STEPS
  · show Steps p.tables e below (s₁.setTop (mkF m 0 #[.val (.int p1), .val (.int p2), .val (.int p3), .val (.int p4), .unset, .unset, .unset, .unset, .unset, .unset, .unset, .unset, .unset, .unset] [])) _
    refine XS.iloadN X0.here hx rfl (hb hby at_0) rfl ?_
    show Steps p.tables e below (s₁.setTop (mkF m 1 #[.val (.int p1), .val (.int p2), .val (.int p3), .val (.int p4), .unset, .unset, .unset, .unset, .unset, .unset, .unset, .unset, .unset, .unset] [(.int p4)])) _
    refine XS.iconst X0.here hx rfl (hb hby at_1) ?_
    show Steps p.tables e below (s₁.setTop (mkF m 2 #[.val (.int p1), .val (.int p2), .val (.int p3), .val (.int p4), .unset, .unset, .unset, .unset, .unset, .unset, .unset, .unset, .unset, .unset] [(.int (3 : Int32)), (.int p4)])) _
    refine XS.iand X0.here hx rfl (hb hby at_2) rfl ?_
    show Steps p.tables e below (s₁.setTop (mkF m 3 #[.val (.int p1), .val (.int p2), .val (.int p3), .val (.int p4), .unset, .unset, .unset, .unset, .unset, .unset, .unset, .unset, .unset, .unset] [(.int (p4 &&& (3 : Int32)))])) _
    refine XS.iconst X0.here hx rfl (hb hby at_3) ?_
    show Steps p.tables e below (s₁.setTop (mkF m 4 #[.val (.int p1), .val (.int p2), .val (.int p3), .val (.int p4), .unset, .unset, .unset, .unset, .unset, .unset, .unset, .unset, .unset, .unset] [(.int (2 : Int32)), (.int (p4 &&& (3 : Int32)))])) _
    refine st5 _ ?_
    show Steps p.tables e below (T5.setTop (mkF m 7 #[.val (.int p1), .val (.int p2), .val (.int p3), .val (.int p4), .unset, .unset, .unset, .unset, .unset, .unset, .unset, .unset, .unset, .unset] [(.int (fv1 (p4 &&& (3 : Int32)) (2 : Int32)))])) _
    refine XS.istore X5.here hx rfl (hb hby at_7) rfl (l' := #[.val (.int p1), .val (.int p2), .val (.int p3), .val (.int p4), .val (.int (fv1 (p4 &&& (3 : Int32)) (2 : Int32))), .unset, .unset, .unset, .unset, .unset, .unset, .unset, .unset, .unset]) rfl ?_
    show Steps p.tables e below (T5.setTop (mkF m 9 #[.val (.int p1), .val (.int p2), .val (.int p3), .val (.int p4), .val (.int (fv1 (p4 &&& (3 : Int32)) (2 : Int32))), .unset, .unset, .unset, .unset, .unset, .unset, .unset, .unset, .unset] [])) _
    refine XS.iloadN X5.here hx rfl (hb hby at_9) rfl ?_
    show Steps p.tables e below (T5.setTop (mkF m 10 #[.val (.int p1), .val (.int p2), .val (.int p3), .val (.int p4), .val (.int (fv1 (p4 &&& (3 : Int32)) (2 : Int32))), .unset, .unset, .unset, .unset, .unset, .unset, .unset, .unset, .unset] [(.int p4)])) _
    refine XS.iconst X5.here hx rfl (hb hby at_10) ?_
    show Steps p.tables e below (T5.setTop (mkF m 11 #[.val (.int p1), .val (.int p2), .val (.int p3), .val (.int p4), .val (.int (fv1 (p4 &&& (3 : Int32)) (2 : Int32))), .unset, .unset, .unset, .unset, .unset, .unset, .unset, .unset, .unset] [(.int (2 : Int32)), (.int p4)])) _
    refine XS.ishr X5.here hx rfl (hb hby at_11) rfl ?_
    show Steps p.tables e below (T5.setTop (mkF m 12 #[.val (.int p1), .val (.int p2), .val (.int p3), .val (.int p4), .val (.int (fv1 (p4 &&& (3 : Int32)) (2 : Int32))), .unset, .unset, .unset, .unset, .unset, .unset, .unset, .unset, .unset] [(.int (p4 >>> ((2 : Int32) &&& 31)))])) _
    refine XS.iconst X5.here hx rfl (hb hby at_12) ?_
    show Steps p.tables e below (T5.setTop (mkF m 13 #[.val (.int p1), .val (.int p2), .val (.int p3), .val (.int p4), .val (.int (fv1 (p4 &&& (3 : Int32)) (2 : Int32))), .unset, .unset, .unset, .unset, .unset, .unset, .unset, .unset, .unset] [(.int (3 : Int32)), (.int (p4 >>> ((2 : Int32) &&& 31)))])) _
    refine XS.iand X5.here hx rfl (hb hby at_13) rfl ?_
    show Steps p.tables e below (T5.setTop (mkF m 14 #[.val (.int p1), .val (.int p2), .val (.int p3), .val (.int p4), .val (.int (fv1 (p4 &&& (3 : Int32)) (2 : Int32))), .unset, .unset, .unset, .unset, .unset, .unset, .unset, .unset, .unset] [(.int ((p4 >>> ((2 : Int32) &&& 31)) &&& (3 : Int32)))])) _
    refine XS.iconst X5.here hx rfl (hb hby at_14) ?_
    show Steps p.tables e below (T5.setTop (mkF m 15 #[.val (.int p1), .val (.int p2), .val (.int p3), .val (.int p4), .val (.int (fv1 (p4 &&& (3 : Int32)) (2 : Int32))), .unset, .unset, .unset, .unset, .unset, .unset, .unset, .unset, .unset] [(.int (2 : Int32)), (.int ((p4 >>> ((2 : Int32) &&& 31)) &&& (3 : Int32)))])) _
    refine st6 _ ?_
    show Steps p.tables e below (T6.setTop (mkF m 18 #[.val (.int p1), .val (.int p2), .val (.int p3), .val (.int p4), .val (.int (fv1 (p4 &&& (3 : Int32)) (2 : Int32))), .unset, .unset, .unset, .unset, .unset, .unset, .unset, .unset, .unset] [(.int (fv1 ((p4 >>> ((2 : Int32) &&& 31)) &&& (3 : Int32)) (2 : Int32)))])) _
    refine XS.istore X6.here hx rfl (hb hby at_18) rfl (l' := #[.val (.int p1), .val (.int p2), .val (.int p3), .val (.int p4), .val (.int (fv1 (p4 &&& (3 : Int32)) (2 : Int32))), .val (.int (fv1 ((p4 >>> ((2 : Int32) &&& 31)) &&& (3 : Int32)) (2 : Int32))), .unset, .unset, .unset, .unset, .unset, .unset, .unset, .unset]) rfl ?_
    show Steps p.tables e below (T6.setTop (mkF m 20 #[.val (.int p1), .val (.int p2), .val (.int p3), .val (.int p4), .val (.int (fv1 (p4 &&& (3 : Int32)) (2 : Int32))), .val (.int (fv1 ((p4 >>> ((2 : Int32) &&& 31)) &&& (3 : Int32)) (2 : Int32))), .unset, .unset, .unset, .unset, .unset, .unset, .unset, .unset] [])) _
    refine XS.iloadN X6.here hx rfl (hb hby at_20) rfl ?_
    show Steps p.tables e below (T6.setTop (mkF m 21 #[.val (.int p1), .val (.int p2), .val (.int p3), .val (.int p4), .val (.int (fv1 (p4 &&& (3 : Int32)) (2 : Int32))), .val (.int (fv1 ((p4 >>> ((2 : Int32) &&& 31)) &&& (3 : Int32)) (2 : Int32))), .unset, .unset, .unset, .unset, .unset, .unset, .unset, .unset] [(.int p4)])) _
    refine XS.iconst X6.here hx rfl (hb hby at_21) ?_
    show Steps p.tables e below (T6.setTop (mkF m 22 #[.val (.int p1), .val (.int p2), .val (.int p3), .val (.int p4), .val (.int (fv1 (p4 &&& (3 : Int32)) (2 : Int32))), .val (.int (fv1 ((p4 >>> ((2 : Int32) &&& 31)) &&& (3 : Int32)) (2 : Int32))), .unset, .unset, .unset, .unset, .unset, .unset, .unset, .unset] [(.int (4 : Int32)), (.int p4)])) _
    refine XS.ishr X6.here hx rfl (hb hby at_22) rfl ?_
    show Steps p.tables e below (T6.setTop (mkF m 23 #[.val (.int p1), .val (.int p2), .val (.int p3), .val (.int p4), .val (.int (fv1 (p4 &&& (3 : Int32)) (2 : Int32))), .val (.int (fv1 ((p4 >>> ((2 : Int32) &&& 31)) &&& (3 : Int32)) (2 : Int32))), .unset, .unset, .unset, .unset, .unset, .unset, .unset, .unset] [(.int (p4 >>> ((4 : Int32) &&& 31)))])) _
    refine XS.iconst X6.here hx rfl (hb hby at_23) ?_
    show Steps p.tables e below (T6.setTop (mkF m 24 #[.val (.int p1), .val (.int p2), .val (.int p3), .val (.int p4), .val (.int (fv1 (p4 &&& (3 : Int32)) (2 : Int32))), .val (.int (fv1 ((p4 >>> ((2 : Int32) &&& 31)) &&& (3 : Int32)) (2 : Int32))), .unset, .unset, .unset, .unset, .unset, .unset, .unset, .unset] [(.int (3 : Int32)), (.int (p4 >>> ((4 : Int32) &&& 31)))])) _
    refine XS.iand X6.here hx rfl (hb hby at_24) rfl ?_
    show Steps p.tables e below (T6.setTop (mkF m 25 #[.val (.int p1), .val (.int p2), .val (.int p3), .val (.int p4), .val (.int (fv1 (p4 &&& (3 : Int32)) (2 : Int32))), .val (.int (fv1 ((p4 >>> ((2 : Int32) &&& 31)) &&& (3 : Int32)) (2 : Int32))), .unset, .unset, .unset, .unset, .unset, .unset, .unset, .unset] [(.int ((p4 >>> ((4 : Int32) &&& 31)) &&& (3 : Int32)))])) _
    refine XS.iconst X6.here hx rfl (hb hby at_25) ?_
    show Steps p.tables e below (T6.setTop (mkF m 26 #[.val (.int p1), .val (.int p2), .val (.int p3), .val (.int p4), .val (.int (fv1 (p4 &&& (3 : Int32)) (2 : Int32))), .val (.int (fv1 ((p4 >>> ((2 : Int32) &&& 31)) &&& (3 : Int32)) (2 : Int32))), .unset, .unset, .unset, .unset, .unset, .unset, .unset, .unset] [(.int (2 : Int32)), (.int ((p4 >>> ((4 : Int32) &&& 31)) &&& (3 : Int32)))])) _
    refine st7 _ ?_
    show Steps p.tables e below (T7.setTop (mkF m 29 #[.val (.int p1), .val (.int p2), .val (.int p3), .val (.int p4), .val (.int (fv1 (p4 &&& (3 : Int32)) (2 : Int32))), .val (.int (fv1 ((p4 >>> ((2 : Int32) &&& 31)) &&& (3 : Int32)) (2 : Int32))), .unset, .unset, .unset, .unset, .unset, .unset, .unset, .unset] [(.int (fv1 ((p4 >>> ((4 : Int32) &&& 31)) &&& (3 : Int32)) (2 : Int32)))])) _
    refine XS.istore X7.here hx rfl (hb hby at_29) rfl (l' := #[.val (.int p1), .val (.int p2), .val (.int p3), .val (.int p4), .val (.int (fv1 (p4 &&& (3 : Int32)) (2 : Int32))), .val (.int (fv1 ((p4 >>> ((2 : Int32) &&& 31)) &&& (3 : Int32)) (2 : Int32))), .val (.int (fv1 ((p4 >>> ((4 : Int32) &&& 31)) &&& (3 : Int32)) (2 : Int32))), .unset, .unset, .unset, .unset, .unset, .unset, .unset]) rfl ?_
    show Steps p.tables e below (T7.setTop (mkF m 31 #[.val (.int p1), .val (.int p2), .val (.int p3), .val (.int p4), .val (.int (fv1 (p4 &&& (3 : Int32)) (2 : Int32))), .val (.int (fv1 ((p4 >>> ((2 : Int32) &&& 31)) &&& (3 : Int32)) (2 : Int32))), .val (.int (fv1 ((p4 >>> ((4 : Int32) &&& 31)) &&& (3 : Int32)) (2 : Int32))), .unset, .unset, .unset, .unset, .unset, .unset, .unset] [])) _
    refine XS.iloadN X7.here hx rfl (hb hby at_31) rfl ?_
    show Steps p.tables e below (T7.setTop (mkF m 32 #[.val (.int p1), .val (.int p2), .val (.int p3), .val (.int p4), .val (.int (fv1 (p4 &&& (3 : Int32)) (2 : Int32))), .val (.int (fv1 ((p4 >>> ((2 : Int32) &&& 31)) &&& (3 : Int32)) (2 : Int32))), .val (.int (fv1 ((p4 >>> ((4 : Int32) &&& 31)) &&& (3 : Int32)) (2 : Int32))), .unset, .unset, .unset, .unset, .unset, .unset, .unset] [(.int p4)])) _
    refine XS.bipush X7.here hx rfl (hb hby at_32) ?_
    show Steps p.tables e below (T7.setTop (mkF m 34 #[.val (.int p1), .val (.int p2), .val (.int p3), .val (.int p4), .val (.int (fv1 (p4 &&& (3 : Int32)) (2 : Int32))), .val (.int (fv1 ((p4 >>> ((2 : Int32) &&& 31)) &&& (3 : Int32)) (2 : Int32))), .val (.int (fv1 ((p4 >>> ((4 : Int32) &&& 31)) &&& (3 : Int32)) (2 : Int32))), .unset, .unset, .unset, .unset, .unset, .unset, .unset] [(.int (6 : Int32)), (.int p4)])) _
    refine XS.ishr X7.here hx rfl (hb hby at_34) rfl ?_
    show Steps p.tables e below (T7.setTop (mkF m 35 #[.val (.int p1), .val (.int p2), .val (.int p3), .val (.int p4), .val (.int (fv1 (p4 &&& (3 : Int32)) (2 : Int32))), .val (.int (fv1 ((p4 >>> ((2 : Int32) &&& 31)) &&& (3 : Int32)) (2 : Int32))), .val (.int (fv1 ((p4 >>> ((4 : Int32) &&& 31)) &&& (3 : Int32)) (2 : Int32))), .unset, .unset, .unset, .unset, .unset, .unset, .unset] [(.int (p4 >>> ((6 : Int32) &&& 31)))])) _
    refine XS.iconst X7.here hx rfl (hb hby at_35) ?_
    show Steps p.tables e below (T7.setTop (mkF m 36 #[.val (.int p1), .val (.int p2), .val (.int p3), .val (.int p4), .val (.int (fv1 (p4 &&& (3 : Int32)) (2 : Int32))), .val (.int (fv1 ((p4 >>> ((2 : Int32) &&& 31)) &&& (3 : Int32)) (2 : Int32))), .val (.int (fv1 ((p4 >>> ((4 : Int32) &&& 31)) &&& (3 : Int32)) (2 : Int32))), .unset, .unset, .unset, .unset, .unset, .unset, .unset] [(.int (1 : Int32)), (.int (p4 >>> ((6 : Int32) &&& 31)))])) _
    refine XS.iand X7.here hx rfl (hb hby at_36) rfl ?_
    show Steps p.tables e below (T7.setTop (mkF m 37 #[.val (.int p1), .val (.int p2), .val (.int p3), .val (.int p4), .val (.int (fv1 (p4 &&& (3 : Int32)) (2 : Int32))), .val (.int (fv1 ((p4 >>> ((2 : Int32) &&& 31)) &&& (3 : Int32)) (2 : Int32))), .val (.int (fv1 ((p4 >>> ((4 : Int32) &&& 31)) &&& (3 : Int32)) (2 : Int32))), .unset, .unset, .unset, .unset, .unset, .unset, .unset] [(.int ((p4 >>> ((6 : Int32) &&& 31)) &&& (1 : Int32)))])) _
    refine XS.ifNo X7.here hx rfl (hb hby at_37) rfl ((if0 _ _).trans (feq hc37).1) ?_
    show Steps p.tables e below (T7.setTop (mkF m 40 #[.val (.int p1), .val (.int p2), .val (.int p3), .val (.int p4), .val (.int (fv1 (p4 &&& (3 : Int32)) (2 : Int32))), .val (.int (fv1 ((p4 >>> ((2 : Int32) &&& 31)) &&& (3 : Int32)) (2 : Int32))), .val (.int (fv1 ((p4 >>> ((4 : Int32) &&& 31)) &&& (3 : Int32)) (2 : Int32))), .unset, .unset, .unset, .unset, .unset, .unset, .unset] [])) _
    refine XS.iconst X7.here hx rfl (hb hby at_40) ?_
    show Steps p.tables e below (T7.setTop (mkF m 41 #[.val (.int p1), .val (.int p2), .val (.int p3), .val (.int p4), .val (.int (fv1 (p4 &&& (3 : Int32)) (2 : Int32))), .val (.int (fv1 ((p4 >>> ((2 : Int32) &&& 31)) &&& (3 : Int32)) (2 : Int32))), .val (.int (fv1 ((p4 >>> ((4 : Int32) &&& 31)) &&& (3 : Int32)) (2 : Int32))), .unset, .unset, .unset, .unset, .unset, .unset, .unset] [(.int (1 : Int32))])) _
    refine XS.goto X7.here hx rfl (pc0 := 41) (pc' := 45) rfl (hb hby at_41) (by decide) (by decide) ?_
    show Steps p.tables e below (T7.setTop (mkF m 45 #[.val (.int p1), .val (.int p2), .val (.int p3), .val (.int p4), .val (.int (fv1 (p4 &&& (3 : Int32)) (2 : Int32))), .val (.int (fv1 ((p4 >>> ((2 : Int32) &&& 31)) &&& (3 : Int32)) (2 : Int32))), .val (.int (fv1 ((p4 >>> ((4 : Int32) &&& 31)) &&& (3 : Int32)) (2 : Int32))), .unset, .unset, .unset, .unset, .unset, .unset, .unset] [(.int (1 : Int32))])) _
    refine XS.istore X7.here hx rfl (hb hby at_45) rfl (l' := #[.val (.int p1), .val (.int p2), .val (.int p3), .val (.int p4), .val (.int (fv1 (p4 &&& (3 : Int32)) (2 : Int32))), .val (.int (fv1 ((p4 >>> ((2 : Int32) &&& 31)) &&& (3 : Int32)) (2 : Int32))), .val (.int (fv1 ((p4 >>> ((4 : Int32) &&& 31)) &&& (3 : Int32)) (2 : Int32))), .val (.int (1 : Int32)), .unset, .unset, .unset, .unset, .unset, .unset]) rfl ?_
    show Steps p.tables e below (T7.setTop (mkF m 47 #[.val (.int p1), .val (.int p2), .val (.int p3), .val (.int p4), .val (.int (fv1 (p4 &&& (3 : Int32)) (2 : Int32))), .val (.int (fv1 ((p4 >>> ((2 : Int32) &&& 31)) &&& (3 : Int32)) (2 : Int32))), .val (.int (fv1 ((p4 >>> ((4 : Int32) &&& 31)) &&& (3 : Int32)) (2 : Int32))), .val (.int (1 : Int32)), .unset, .unset, .unset, .unset, .unset, .unset] [])) _
    refine XS.iloadN X7.here hx rfl (hb hby at_47) rfl ?_
    show Steps p.tables e below (T7.setTop (mkF m 48 #[.val (.int p1), .val (.int p2), .val (.int p3), .val (.int p4), .val (.int (fv1 (p4 &&& (3 : Int32)) (2 : Int32))), .val (.int (fv1 ((p4 >>> ((2 : Int32) &&& 31)) &&& (3 : Int32)) (2 : Int32))), .val (.int (fv1 ((p4 >>> ((4 : Int32) &&& 31)) &&& (3 : Int32)) (2 : Int32))), .val (.int (1 : Int32)), .unset, .unset, .unset, .unset, .unset, .unset] [(.int p1)])) _
    refine XS.iload X7.here hx rfl (hb hby at_48) rfl ?_
    show Steps p.tables e below (T7.setTop (mkF m 50 #[.val (.int p1), .val (.int p2), .val (.int p3), .val (.int p4), .val (.int (fv1 (p4 &&& (3 : Int32)) (2 : Int32))), .val (.int (fv1 ((p4 >>> ((2 : Int32) &&& 31)) &&& (3 : Int32)) (2 : Int32))), .val (.int (fv1 ((p4 >>> ((4 : Int32) &&& 31)) &&& (3 : Int32)) (2 : Int32))), .val (.int (1 : Int32)), .unset, .unset, .unset, .unset, .unset, .unset] [(.int (fv1 (p4 &&& (3 : Int32)) (2 : Int32))), (.int p1)])) _
    refine st8 _ ?_
    show Steps p.tables e below (T8.setTop (mkF m 53 #[.val (.int p1), .val (.int p2), .val (.int p3), .val (.int p4), .val (.int (fv1 (p4 &&& (3 : Int32)) (2 : Int32))), .val (.int (fv1 ((p4 >>> ((2 : Int32) &&& 31)) &&& (3 : Int32)) (2 : Int32))), .val (.int (fv1 ((p4 >>> ((4 : Int32) &&& 31)) &&& (3 : Int32)) (2 : Int32))), .val (.int (1 : Int32)), .unset, .unset, .unset, .unset, .unset, .unset] [(.ref b8)])) _
    refine XS.astore X8.here hx rfl (hb hby at_53) rfl rfl (l' := #[.val (.int p1), .val (.int p2), .val (.int p3), .val (.int p4), .val (.int (fv1 (p4 &&& (3 : Int32)) (2 : Int32))), .val (.int (fv1 ((p4 >>> ((2 : Int32) &&& 31)) &&& (3 : Int32)) (2 : Int32))), .val (.int (fv1 ((p4 >>> ((4 : Int32) &&& 31)) &&& (3 : Int32)) (2 : Int32))), .val (.int (1 : Int32)), .val (.ref b8), .unset, .unset, .unset, .unset, .unset]) rfl ?_
    show Steps p.tables e below (T8.setTop (mkF m 55 #[.val (.int p1), .val (.int p2), .val (.int p3), .val (.int p4), .val (.int (fv1 (p4 &&& (3 : Int32)) (2 : Int32))), .val (.int (fv1 ((p4 >>> ((2 : Int32) &&& 31)) &&& (3 : Int32)) (2 : Int32))), .val (.int (fv1 ((p4 >>> ((4 : Int32) &&& 31)) &&& (3 : Int32)) (2 : Int32))), .val (.int (1 : Int32)), .val (.ref b8), .unset, .unset, .unset, .unset, .unset] [])) _
    refine XS.iloadN X8.here hx rfl (hb hby at_55) rfl ?_
    show Steps p.tables e below (T8.setTop (mkF m 56 #[.val (.int p1), .val (.int p2), .val (.int p3), .val (.int p4), .val (.int (fv1 (p4 &&& (3 : Int32)) (2 : Int32))), .val (.int (fv1 ((p4 >>> ((2 : Int32) &&& 31)) &&& (3 : Int32)) (2 : Int32))), .val (.int (fv1 ((p4 >>> ((4 : Int32) &&& 31)) &&& (3 : Int32)) (2 : Int32))), .val (.int (1 : Int32)), .val (.ref b8), .unset, .unset, .unset, .unset, .unset] [(.int p2)])) _
    refine XS.iload X8.here hx rfl (hb hby at_56) rfl ?_
    show Steps p.tables e below (T8.setTop (mkF m 58 #[.val (.int p1), .val (.int p2), .val (.int p3), .val (.int p4), .val (.int (fv1 (p4 &&& (3 : Int32)) (2 : Int32))), .val (.int (fv1 ((p4 >>> ((2 : Int32) &&& 31)) &&& (3 : Int32)) (2 : Int32))), .val (.int (fv1 ((p4 >>> ((4 : Int32) &&& 31)) &&& (3 : Int32)) (2 : Int32))), .val (.int (1 : Int32)), .val (.ref b8), .unset, .unset, .unset, .unset, .unset] [(.int (fv1 ((p4 >>> ((2 : Int32) &&& 31)) &&& (3 : Int32)) (2 : Int32))), (.int p2)])) _
    refine st9 _ ?_
    show Steps p.tables e below (T9.setTop (mkF m 61 #[.val (.int p1), .val (.int p2), .val (.int p3), .val (.int p4), .val (.int (fv1 (p4 &&& (3 : Int32)) (2 : Int32))), .val (.int (fv1 ((p4 >>> ((2 : Int32) &&& 31)) &&& (3 : Int32)) (2 : Int32))), .val (.int (fv1 ((p4 >>> ((4 : Int32) &&& 31)) &&& (3 : Int32)) (2 : Int32))), .val (.int (1 : Int32)), .val (.ref b8), .unset, .unset, .unset, .unset, .unset] [(.ref b9)])) _
    refine XS.astore X9.here hx rfl (hb hby at_61) rfl rfl (l' := #[.val (.int p1), .val (.int p2), .val (.int p3), .val (.int p4), .val (.int (fv1 (p4 &&& (3 : Int32)) (2 : Int32))), .val (.int (fv1 ((p4 >>> ((2 : Int32) &&& 31)) &&& (3 : Int32)) (2 : Int32))), .val (.int (fv1 ((p4 >>> ((4 : Int32) &&& 31)) &&& (3 : Int32)) (2 : Int32))), .val (.int (1 : Int32)), .val (.ref b8), .val (.ref b9), .unset, .unset, .unset, .unset]) rfl ?_
    show Steps p.tables e below (T9.setTop (mkF m 63 #[.val (.int p1), .val (.int p2), .val (.int p3), .val (.int p4), .val (.int (fv1 (p4 &&& (3 : Int32)) (2 : Int32))), .val (.int (fv1 ((p4 >>> ((2 : Int32) &&& 31)) &&& (3 : Int32)) (2 : Int32))), .val (.int (fv1 ((p4 >>> ((4 : Int32) &&& 31)) &&& (3 : Int32)) (2 : Int32))), .val (.int (1 : Int32)), .val (.ref b8), .val (.ref b9), .unset, .unset, .unset, .unset] [])) _
    refine XS.iload X9.here hx rfl (hb hby at_63) rfl ?_
    show Steps p.tables e below (T9.setTop (mkF m 65 #[.val (.int p1), .val (.int p2), .val (.int p3), .val (.int p4), .val (.int (fv1 (p4 &&& (3 : Int32)) (2 : Int32))), .val (.int (fv1 ((p4 >>> ((2 : Int32) &&& 31)) &&& (3 : Int32)) (2 : Int32))), .val (.int (fv1 ((p4 >>> ((4 : Int32) &&& 31)) &&& (3 : Int32)) (2 : Int32))), .val (.int (1 : Int32)), .val (.ref b8), .val (.ref b9), .unset, .unset, .unset, .unset] [(.int (1 : Int32))])) _
    refine XS.ifNo X9.here hx rfl (hb hby at_65) rfl ((if0 _ _).trans (feq hc65).1) ?_
    show Steps p.tables e below (T9.setTop (mkF m 68 #[.val (.int p1), .val (.int p2), .val (.int p3), .val (.int p4), .val (.int (fv1 (p4 &&& (3 : Int32)) (2 : Int32))), .val (.int (fv1 ((p4 >>> ((2 : Int32) &&& 31)) &&& (3 : Int32)) (2 : Int32))), .val (.int (fv1 ((p4 >>> ((4 : Int32) &&& 31)) &&& (3 : Int32)) (2 : Int32))), .val (.int (1 : Int32)), .val (.ref b8), .val (.ref b9), .unset, .unset, .unset, .unset] [])) _
    refine XS.iloadN X9.here hx rfl (hb hby at_68) rfl ?_
    show Steps p.tables e below (T9.setTop (mkF m 69 #[.val (.int p1), .val (.int p2), .val (.int p3), .val (.int p4), .val (.int (fv1 (p4 &&& (3 : Int32)) (2 : Int32))), .val (.int (fv1 ((p4 >>> ((2 : Int32) &&& 31)) &&& (3 : Int32)) (2 : Int32))), .val (.int (fv1 ((p4 >>> ((4 : Int32) &&& 31)) &&& (3 : Int32)) (2 : Int32))), .val (.int (1 : Int32)), .val (.ref b8), .val (.ref b9), .unset, .unset, .unset, .unset] [(.int p3)])) _
    refine XS.iload X9.here hx rfl (hb hby at_69) rfl ?_
    show Steps p.tables e below (T9.setTop (mkF m 71 #[.val (.int p1), .val (.int p2), .val (.int p3), .val (.int p4), .val (.int (fv1 (p4 &&& (3 : Int32)) (2 : Int32))), .val (.int (fv1 ((p4 >>> ((2 : Int32) &&& 31)) &&& (3 : Int32)) (2 : Int32))), .val (.int (fv1 ((p4 >>> ((4 : Int32) &&& 31)) &&& (3 : Int32)) (2 : Int32))), .val (.int (1 : Int32)), .val (.ref b8), .val (.ref b9), .unset, .unset, .unset, .unset] [(.int (fv1 ((p4 >>> ((4 : Int32) &&& 31)) &&& (3 : Int32)) (2 : Int32))), (.int p3)])) _
    refine st10 _ ?_
    show Steps p.tables e below (T10.setTop (mkF m 74 #[.val (.int p1), .val (.int p2), .val (.int p3), .val (.int p4), .val (.int (fv1 (p4 &&& (3 : Int32)) (2 : Int32))), .val (.int (fv1 ((p4 >>> ((2 : Int32) &&& 31)) &&& (3 : Int32)) (2 : Int32))), .val (.int (fv1 ((p4 >>> ((4 : Int32) &&& 31)) &&& (3 : Int32)) (2 : Int32))), .val (.int (1 : Int32)), .val (.ref b8), .val (.ref b9), .unset, .unset, .unset, .unset] [(.ref b10)])) _
    refine XS.goto X10.here hx rfl (pc0 := 74) (pc' := 78) rfl (hb hby at_74) (by decide) (by decide) ?_
    show Steps p.tables e below (T10.setTop (mkF m 78 #[.val (.int p1), .val (.int p2), .val (.int p3), .val (.int p4), .val (.int (fv1 (p4 &&& (3 : Int32)) (2 : Int32))), .val (.int (fv1 ((p4 >>> ((2 : Int32) &&& 31)) &&& (3 : Int32)) (2 : Int32))), .val (.int (fv1 ((p4 >>> ((4 : Int32) &&& 31)) &&& (3 : Int32)) (2 : Int32))), .val (.int (1 : Int32)), .val (.ref b8), .val (.ref b9), .unset, .unset, .unset, .unset] [(.ref b10)])) _
    refine XS.astore X10.here hx rfl (hb hby at_78) rfl rfl (l' := #[.val (.int p1), .val (.int p2), .val (.int p3), .val (.int p4), .val (.int (fv1 (p4 &&& (3 : Int32)) (2 : Int32))), .val (.int (fv1 ((p4 >>> ((2 : Int32) &&& 31)) &&& (3 : Int32)) (2 : Int32))), .val (.int (fv1 ((p4 >>> ((4 : Int32) &&& 31)) &&& (3 : Int32)) (2 : Int32))), .val (.int (1 : Int32)), .val (.ref b8), .val (.ref b9), .val (.ref b10), .unset, .unset, .unset]) rfl ?_
    show Steps p.tables e below (T10.setTop (mkF m 80 #[.val (.int p1), .val (.int p2), .val (.int p3), .val (.int p4), .val (.int (fv1 (p4 &&& (3 : Int32)) (2 : Int32))), .val (.int (fv1 ((p4 >>> ((2 : Int32) &&& 31)) &&& (3 : Int32)) (2 : Int32))), .val (.int (fv1 ((p4 >>> ((4 : Int32) &&& 31)) &&& (3 : Int32)) (2 : Int32))), .val (.int (1 : Int32)), .val (.ref b8), .val (.ref b9), .val (.ref b10), .unset, .unset, .unset] [])) _
    refine st11 _ ?_
    show Steps p.tables e below (T11.setTop (mkF m 83 #[.val (.int p1), .val (.int p2), .val (.int p3), .val (.int p4), .val (.int (fv1 (p4 &&& (3 : Int32)) (2 : Int32))), .val (.int (fv1 ((p4 >>> ((2 : Int32) &&& 31)) &&& (3 : Int32)) (2 : Int32))), .val (.int (fv1 ((p4 >>> ((4 : Int32) &&& 31)) &&& (3 : Int32)) (2 : Int32))), .val (.int (1 : Int32)), .val (.ref b8), .val (.ref b9), .val (.ref b10), .unset, .unset, .unset] [(.ref b11)])) _
    refine XS.dup X11.here hx rfl (hb hby at_83) rfl rfl ?_
    show Steps p.tables e below (T11.setTop (mkF m 84 #[.val (.int p1), .val (.int p2), .val (.int p3), .val (.int p4), .val (.int (fv1 (p4 &&& (3 : Int32)) (2 : Int32))), .val (.int (fv1 ((p4 >>> ((2 : Int32) &&& 31)) &&& (3 : Int32)) (2 : Int32))), .val (.int (fv1 ((p4 >>> ((4 : Int32) &&& 31)) &&& (3 : Int32)) (2 : Int32))), .val (.int (1 : Int32)), .val (.ref b8), .val (.ref b9), .val (.ref b10), .unset, .unset, .unset] [(.ref b11), (.ref b11)])) _
    refine XS.aload X11.here hx rfl (hb hby at_84) rfl rfl ?_
    show Steps p.tables e below (T11.setTop (mkF m 86 #[.val (.int p1), .val (.int p2), .val (.int p3), .val (.int p4), .val (.int (fv1 (p4 &&& (3 : Int32)) (2 : Int32))), .val (.int (fv1 ((p4 >>> ((2 : Int32) &&& 31)) &&& (3 : Int32)) (2 : Int32))), .val (.int (fv1 ((p4 >>> ((4 : Int32) &&& 31)) &&& (3 : Int32)) (2 : Int32))), .val (.int (1 : Int32)), .val (.ref b8), .val (.ref b9), .val (.ref b10), .unset, .unset, .unset] [(.ref b8), (.ref b11), (.ref b11)])) _
    refine XS.aload X11.here hx rfl (hb hby at_86) rfl rfl ?_
    show Steps p.tables e below (T11.setTop (mkF m 88 #[.val (.int p1), .val (.int p2), .val (.int p3), .val (.int p4), .val (.int (fv1 (p4 &&& (3 : Int32)) (2 : Int32))), .val (.int (fv1 ((p4 >>> ((2 : Int32) &&& 31)) &&& (3 : Int32)) (2 : Int32))), .val (.int (fv1 ((p4 >>> ((4 : Int32) &&& 31)) &&& (3 : Int32)) (2 : Int32))), .val (.int (1 : Int32)), .val (.ref b8), .val (.ref b9), .val (.ref b10), .unset, .unset, .unset] [(.ref b9), (.ref b8), (.ref b11), (.ref b11)])) _
    refine XS.aload X11.here hx rfl (hb hby at_88) rfl rfl ?_
    show Steps p.tables e below (T11.setTop (mkF m 90 #[.val (.int p1), .val (.int p2), .val (.int p3), .val (.int p4), .val (.int (fv1 (p4 &&& (3 : Int32)) (2 : Int32))), .val (.int (fv1 ((p4 >>> ((2 : Int32) &&& 31)) &&& (3 : Int32)) (2 : Int32))), .val (.int (fv1 ((p4 >>> ((4 : Int32) &&& 31)) &&& (3 : Int32)) (2 : Int32))), .val (.int (1 : Int32)), .val (.ref b8), .val (.ref b9), .val (.ref b10), .unset, .unset, .unset] [(.ref b10), (.ref b9), (.ref b8), (.ref b11), (.ref b11)])) _
    refine st12.trans ?_
    show Steps p.tables e below (T12.setTop (mkF m 93 #[.val (.int p1), .val (.int p2), .val (.int p3), .val (.int p4), .val (.int (fv1 (p4 &&& (3 : Int32)) (2 : Int32))), .val (.int (fv1 ((p4 >>> ((2 : Int32) &&& 31)) &&& (3 : Int32)) (2 : Int32))), .val (.int (fv1 ((p4 >>> ((4 : Int32) &&& 31)) &&& (3 : Int32)) (2 : Int32))), .val (.int (1 : Int32)), .val (.ref b8), .val (.ref b9), .val (.ref b10), .unset, .unset, .unset] [(.ref b11)])) _
    refine XS.astore X12.here hx rfl (hb hby at_93) rfl rfl (l' := #[.val (.int p1), .val (.int p2), .val (.int p3), .val (.int p4), .val (.int (fv1 (p4 &&& (3 : Int32)) (2 : Int32))), .val (.int (fv1 ((p4 >>> ((2 : Int32) &&& 31)) &&& (3 : Int32)) (2 : Int32))), .val (.int (fv1 ((p4 >>> ((4 : Int32) &&& 31)) &&& (3 : Int32)) (2 : Int32))), .val (.int (1 : Int32)), .val (.ref b8), .val (.ref b9), .val (.ref b10), .val (.ref b11), .unset, .unset]) rfl ?_
    show Steps p.tables e below (T12.setTop (mkF m 95 #[.val (.int p1), .val (.int p2), .val (.int p3), .val (.int p4), .val (.int (fv1 (p4 &&& (3 : Int32)) (2 : Int32))), .val (.int (fv1 ((p4 >>> ((2 : Int32) &&& 31)) &&& (3 : Int32)) (2 : Int32))), .val (.int (fv1 ((p4 >>> ((4 : Int32) &&& 31)) &&& (3 : Int32)) (2 : Int32))), .val (.int (1 : Int32)), .val (.ref b8), .val (.ref b9), .val (.ref b10), .val (.ref b11), .unset, .unset] [])) _
    refine XS.aload X12.here hx rfl (hb hby at_95) rfl rfl ?_
    show Steps p.tables e below (T12.setTop (mkF m 97 #[.val (.int p1), .val (.int p2), .val (.int p3), .val (.int p4), .val (.int (fv1 (p4 &&& (3 : Int32)) (2 : Int32))), .val (.int (fv1 ((p4 >>> ((2 : Int32) &&& 31)) &&& (3 : Int32)) (2 : Int32))), .val (.int (fv1 ((p4 >>> ((4 : Int32) &&& 31)) &&& (3 : Int32)) (2 : Int32))), .val (.int (1 : Int32)), .val (.ref b8), .val (.ref b9), .val (.ref b10), .val (.ref b11), .unset, .unset] [(.ref b11)])) _
    refine st13.trans ?_
    show Steps p.tables e below (T13.setTop (mkF m 100 #[.val (.int p1), .val (.int p2), .val (.int p3), .val (.int p4), .val (.int (fv1 (p4 &&& (3 : Int32)) (2 : Int32))), .val (.int (fv1 ((p4 >>> ((2 : Int32) &&& 31)) &&& (3 : Int32)) (2 : Int32))), .val (.int (fv1 ((p4 >>> ((4 : Int32) &&& 31)) &&& (3 : Int32)) (2 : Int32))), .val (.int (1 : Int32)), .val (.ref b8), .val (.ref b9), .val (.ref b10), .val (.ref b11), .unset, .unset] [(.ref b13)])) _
    refine XS.astore X13.here hx rfl (hb hby at_100) rfl rfl (l' := #[.val (.int p1), .val (.int p2), .val (.int p3), .val (.int p4), .val (.int (fv1 (p4 &&& (3 : Int32)) (2 : Int32))), .val (.int (fv1 ((p4 >>> ((2 : Int32) &&& 31)) &&& (3 : Int32)) (2 : Int32))), .val (.int (fv1 ((p4 >>> ((4 : Int32) &&& 31)) &&& (3 : Int32)) (2 : Int32))), .val (.int (1 : Int32)), .val (.ref b8), .val (.ref b9), .val (.ref b10), .val (.ref b11), .val (.ref b13), .unset]) rfl ?_
    show Steps p.tables e below (T13.setTop (mkF m 102 #[.val (.int p1), .val (.int p2), .val (.int p3), .val (.int p4), .val (.int (fv1 (p4 &&& (3 : Int32)) (2 : Int32))), .val (.int (fv1 ((p4 >>> ((2 : Int32) &&& 31)) &&& (3 : Int32)) (2 : Int32))), .val (.int (fv1 ((p4 >>> ((4 : Int32) &&& 31)) &&& (3 : Int32)) (2 : Int32))), .val (.int (1 : Int32)), .val (.ref b8), .val (.ref b9), .val (.ref b10), .val (.ref b11), .val (.ref b13), .unset] [])) _
    refine XS.aload X13.here hx rfl (hb hby at_102) rfl rfl ?_
    show Steps p.tables e below (T13.setTop (mkF m 104 #[.val (.int p1), .val (.int p2), .val (.int p3), .val (.int p4), .val (.int (fv1 (p4 &&& (3 : Int32)) (2 : Int32))), .val (.int (fv1 ((p4 >>> ((2 : Int32) &&& 31)) &&& (3 : Int32)) (2 : Int32))), .val (.int (fv1 ((p4 >>> ((4 : Int32) &&& 31)) &&& (3 : Int32)) (2 : Int32))), .val (.int (1 : Int32)), .val (.ref b8), .val (.ref b9), .val (.ref b10), .val (.ref b11), .val (.ref b13), .unset] [(.ref b13)])) _
    refine XS.ifnonnullYes X13.here hx rfl (pc0 := 104) (pc' := 109) rfl (hb hby at_104) rfl (by decide) (by decide) ?_
    show Steps p.tables e below (T13.setTop (mkF m 109 #[.val (.int p1), .val (.int p2), .val (.int p3), .val (.int p4), .val (.int (fv1 (p4 &&& (3 : Int32)) (2 : Int32))), .val (.int (fv1 ((p4 >>> ((2 : Int32) &&& 31)) &&& (3 : Int32)) (2 : Int32))), .val (.int (fv1 ((p4 >>> ((4 : Int32) &&& 31)) &&& (3 : Int32)) (2 : Int32))), .val (.int (1 : Int32)), .val (.ref b8), .val (.ref b9), .val (.ref b10), .val (.ref b11), .val (.ref b13), .unset] [])) _
    refine XS.aload X13.here hx rfl (hb hby at_109) rfl rfl ?_
    show Steps p.tables e below (T13.setTop (mkF m 111 #[.val (.int p1), .val (.int p2), .val (.int p3), .val (.int p4), .val (.int (fv1 (p4 &&& (3 : Int32)) (2 : Int32))), .val (.int (fv1 ((p4 >>> ((2 : Int32) &&& 31)) &&& (3 : Int32)) (2 : Int32))), .val (.int (fv1 ((p4 >>> ((4 : Int32) &&& 31)) &&& (3 : Int32)) (2 : Int32))), .val (.int (1 : Int32)), .val (.ref b8), .val (.ref b9), .val (.ref b10), .val (.ref b11), .val (.ref b13), .unset] [(.ref b13)])) _
    refine st14.trans ?_
    show Steps p.tables e below (T14.setTop (mkF m 114 #[.val (.int p1), .val (.int p2), .val (.int p3), .val (.int p4), .val (.int (fv1 (p4 &&& (3 : Int32)) (2 : Int32))), .val (.int (fv1 ((p4 >>> ((2 : Int32) &&& 31)) &&& (3 : Int32)) (2 : Int32))), .val (.int (fv1 ((p4 >>> ((4 : Int32) &&& 31)) &&& (3 : Int32)) (2 : Int32))), .val (.int (1 : Int32)), .val (.ref b8), .val (.ref b9), .val (.ref b10), .val (.ref b11), .val (.ref b13), .unset] [.null])) _
    refine XS.ifnonnullNo X14.here hx rfl (hb hby at_114) rfl ?_
    show Steps p.tables e below (T14.setTop (mkF m 117 #[.val (.int p1), .val (.int p2), .val (.int p3), .val (.int p4), .val (.int (fv1 (p4 &&& (3 : Int32)) (2 : Int32))), .val (.int (fv1 ((p4 >>> ((2 : Int32) &&& 31)) &&& (3 : Int32)) (2 : Int32))), .val (.int (fv1 ((p4 >>> ((4 : Int32) &&& 31)) &&& (3 : Int32)) (2 : Int32))), .val (.int (1 : Int32)), .val (.ref b8), .val (.ref b9), .val (.ref b10), .val (.ref b11), .val (.ref b13), .unset] [])) _
    refine XS.aload X14.here hx rfl (hb hby at_117) rfl rfl ?_
    show Steps p.tables e below (T14.setTop (mkF m 119 #[.val (.int p1), .val (.int p2), .val (.int p3), .val (.int p4), .val (.int (fv1 (p4 &&& (3 : Int32)) (2 : Int32))), .val (.int (fv1 ((p4 >>> ((2 : Int32) &&& 31)) &&& (3 : Int32)) (2 : Int32))), .val (.int (fv1 ((p4 >>> ((4 : Int32) &&& 31)) &&& (3 : Int32)) (2 : Int32))), .val (.int (1 : Int32)), .val (.ref b8), .val (.ref b9), .val (.ref b10), .val (.ref b11), .val (.ref b13), .unset] [(.ref b13)])) _
    refine st15.trans ?_
    show Steps p.tables e below (T15.setTop (mkF m 122 #[.val (.int p1), .val (.int p2), .val (.int p3), .val (.int p4), .val (.int (fv1 (p4 &&& (3 : Int32)) (2 : Int32))), .val (.int (fv1 ((p4 >>> ((2 : Int32) &&& 31)) &&& (3 : Int32)) (2 : Int32))), .val (.int (fv1 ((p4 >>> ((4 : Int32) &&& 31)) &&& (3 : Int32)) (2 : Int32))), .val (.int (1 : Int32)), .val (.ref b8), .val (.ref b9), .val (.ref b10), .val (.ref b11), .val (.ref b13), .unset] [(.ref b8)])) _
    refine XS.iloadN X15.here hx rfl (hb hby at_122) rfl ?_
    show Steps p.tables e below (T15.setTop (mkF m 123 #[.val (.int p1), .val (.int p2), .val (.int p3), .val (.int p4), .val (.int (fv1 (p4 &&& (3 : Int32)) (2 : Int32))), .val (.int (fv1 ((p4 >>> ((2 : Int32) &&& 31)) &&& (3 : Int32)) (2 : Int32))), .val (.int (fv1 ((p4 >>> ((4 : Int32) &&& 31)) &&& (3 : Int32)) (2 : Int32))), .val (.int (1 : Int32)), .val (.ref b8), .val (.ref b9), .val (.ref b10), .val (.ref b11), .val (.ref b13), .unset] [(.int p1), (.ref b8)])) _
    refine XS.iload X15.here hx rfl (hb hby at_123) rfl ?_
    show Steps p.tables e below (T15.setTop (mkF m 125 #[.val (.int p1), .val (.int p2), .val (.int p3), .val (.int p4), .val (.int (fv1 (p4 &&& (3 : Int32)) (2 : Int32))), .val (.int (fv1 ((p4 >>> ((2 : Int32) &&& 31)) &&& (3 : Int32)) (2 : Int32))), .val (.int (fv1 ((p4 >>> ((4 : Int32) &&& 31)) &&& (3 : Int32)) (2 : Int32))), .val (.int (1 : Int32)), .val (.ref b8), .val (.ref b9), .val (.ref b10), .val (.ref b11), .val (.ref b13), .unset] [(.int (fv1 (p4 &&& (3 : Int32)) (2 : Int32))), (.int p1), (.ref b8)])) _
    refine st16 _ ?_
    show Steps p.tables e below (T16.setTop (mkF m 128 #[.val (.int p1), .val (.int p2), .val (.int p3), .val (.int p4), .val (.int (fv1 (p4 &&& (3 : Int32)) (2 : Int32))), .val (.int (fv1 ((p4 >>> ((2 : Int32) &&& 31)) &&& (3 : Int32)) (2 : Int32))), .val (.int (fv1 ((p4 >>> ((4 : Int32) &&& 31)) &&& (3 : Int32)) (2 : Int32))), .val (.int (1 : Int32)), .val (.ref b8), .val (.ref b9), .val (.ref b10), .val (.ref b11), .val (.ref b13), .unset] [(.int (1 : Int32))])) _
    refine XS.ifNo X16.here hx rfl (hb hby at_128) rfl ((if0 _ _).trans (feq hc128).1) ?_
    show Steps p.tables e below (T16.setTop (mkF m 131 #[.val (.int p1), .val (.int p2), .val (.int p3), .val (.int p4), .val (.int (fv1 (p4 &&& (3 : Int32)) (2 : Int32))), .val (.int (fv1 ((p4 >>> ((2 : Int32) &&& 31)) &&& (3 : Int32)) (2 : Int32))), .val (.int (fv1 ((p4 >>> ((4 : Int32) &&& 31)) &&& (3 : Int32)) (2 : Int32))), .val (.int (1 : Int32)), .val (.ref b8), .val (.ref b9), .val (.ref b10), .val (.ref b11), .val (.ref b13), .unset] [])) _
    refine XS.aload X16.here hx rfl (hb hby at_131) rfl rfl ?_
    show Steps p.tables e below (T16.setTop (mkF m 133 #[.val (.int p1), .val (.int p2), .val (.int p3), .val (.int p4), .val (.int (fv1 (p4 &&& (3 : Int32)) (2 : Int32))), .val (.int (fv1 ((p4 >>> ((2 : Int32) &&& 31)) &&& (3 : Int32)) (2 : Int32))), .val (.int (fv1 ((p4 >>> ((4 : Int32) &&& 31)) &&& (3 : Int32)) (2 : Int32))), .val (.int (1 : Int32)), .val (.ref b8), .val (.ref b9), .val (.ref b10), .val (.ref b11), .val (.ref b13), .unset] [(.ref b13)])) _
    refine st17.trans ?_
    show Steps p.tables e below (T17.setTop (mkF m 136 #[.val (.int p1), .val (.int p2), .val (.int p3), .val (.int p4), .val (.int (fv1 (p4 &&& (3 : Int32)) (2 : Int32))), .val (.int (fv1 ((p4 >>> ((2 : Int32) &&& 31)) &&& (3 : Int32)) (2 : Int32))), .val (.int (fv1 ((p4 >>> ((4 : Int32) &&& 31)) &&& (3 : Int32)) (2 : Int32))), .val (.int (1 : Int32)), .val (.ref b8), .val (.ref b9), .val (.ref b10), .val (.ref b11), .val (.ref b13), .unset] [(.ref b9)])) _
    refine XS.iloadN X17.here hx rfl (hb hby at_136) rfl ?_
    show Steps p.tables e below (T17.setTop (mkF m 137 #[.val (.int p1), .val (.int p2), .val (.int p3), .val (.int p4), .val (.int (fv1 (p4 &&& (3 : Int32)) (2 : Int32))), .val (.int (fv1 ((p4 >>> ((2 : Int32) &&& 31)) &&& (3 : Int32)) (2 : Int32))), .val (.int (fv1 ((p4 >>> ((4 : Int32) &&& 31)) &&& (3 : Int32)) (2 : Int32))), .val (.int (1 : Int32)), .val (.ref b8), .val (.ref b9), .val (.ref b10), .val (.ref b11), .val (.ref b13), .unset] [(.int p2), (.ref b9)])) _
    refine XS.iload X17.here hx rfl (hb hby at_137) rfl ?_
    show Steps p.tables e below (T17.setTop (mkF m 139 #[.val (.int p1), .val (.int p2), .val (.int p3), .val (.int p4), .val (.int (fv1 (p4 &&& (3 : Int32)) (2 : Int32))), .val (.int (fv1 ((p4 >>> ((2 : Int32) &&& 31)) &&& (3 : Int32)) (2 : Int32))), .val (.int (fv1 ((p4 >>> ((4 : Int32) &&& 31)) &&& (3 : Int32)) (2 : Int32))), .val (.int (1 : Int32)), .val (.ref b8), .val (.ref b9), .val (.ref b10), .val (.ref b11), .val (.ref b13), .unset] [(.int (fv1 ((p4 >>> ((2 : Int32) &&& 31)) &&& (3 : Int32)) (2 : Int32))), (.int p2), (.ref b9)])) _
    refine st18 _ ?_
    show Steps p.tables e below (T18.setTop (mkF m 142 #[.val (.int p1), .val (.int p2), .val (.int p3), .val (.int p4), .val (.int (fv1 (p4 &&& (3 : Int32)) (2 : Int32))), .val (.int (fv1 ((p4 >>> ((2 : Int32) &&& 31)) &&& (3 : Int32)) (2 : Int32))), .val (.int (fv1 ((p4 >>> ((4 : Int32) &&& 31)) &&& (3 : Int32)) (2 : Int32))), .val (.int (1 : Int32)), .val (.ref b8), .val (.ref b9), .val (.ref b10), .val (.ref b11), .val (.ref b13), .unset] [(.int (1 : Int32))])) _
    refine XS.ifNo X18.here hx rfl (hb hby at_142) rfl ((if0 _ _).trans (feq hc142).1) ?_
    show Steps p.tables e below (T18.setTop (mkF m 145 #[.val (.int p1), .val (.int p2), .val (.int p3), .val (.int p4), .val (.int (fv1 (p4 &&& (3 : Int32)) (2 : Int32))), .val (.int (fv1 ((p4 >>> ((2 : Int32) &&& 31)) &&& (3 : Int32)) (2 : Int32))), .val (.int (fv1 ((p4 >>> ((4 : Int32) &&& 31)) &&& (3 : Int32)) (2 : Int32))), .val (.int (1 : Int32)), .val (.ref b8), .val (.ref b9), .val (.ref b10), .val (.ref b11), .val (.ref b13), .unset] [])) _
    refine XS.iconst X18.here hx rfl (hb hby at_145) ?_
    show Steps p.tables e below (T18.setTop (mkF m 146 #[.val (.int p1), .val (.int p2), .val (.int p3), .val (.int p4), .val (.int (fv1 (p4 &&& (3 : Int32)) (2 : Int32))), .val (.int (fv1 ((p4 >>> ((2 : Int32) &&& 31)) &&& (3 : Int32)) (2 : Int32))), .val (.int (fv1 ((p4 >>> ((4 : Int32) &&& 31)) &&& (3 : Int32)) (2 : Int32))), .val (.int (1 : Int32)), .val (.ref b8), .val (.ref b9), .val (.ref b10), .val (.ref b11), .val (.ref b13), .unset] [(.int (1 : Int32))])) _
    refine XS.goto X18.here hx rfl (pc0 := 146) (pc' := 150) rfl (hb hby at_146) (by decide) (by decide) ?_
    show Steps p.tables e below (T18.setTop (mkF m 150 #[.val (.int p1), .val (.int p2), .val (.int p3), .val (.int p4), .val (.int (fv1 (p4 &&& (3 : Int32)) (2 : Int32))), .val (.int (fv1 ((p4 >>> ((2 : Int32) &&& 31)) &&& (3 : Int32)) (2 : Int32))), .val (.int (fv1 ((p4 >>> ((4 : Int32) &&& 31)) &&& (3 : Int32)) (2 : Int32))), .val (.int (1 : Int32)), .val (.ref b8), .val (.ref b9), .val (.ref b10), .val (.ref b11), .val (.ref b13), .unset] [(.int (1 : Int32))])) _
    refine XS.istore X18.here hx rfl (hb hby at_150) rfl (l' := #[.val (.int p1), .val (.int p2), .val (.int p3), .val (.int p4), .val (.int (fv1 (p4 &&& (3 : Int32)) (2 : Int32))), .val (.int (fv1 ((p4 >>> ((2 : Int32) &&& 31)) &&& (3 : Int32)) (2 : Int32))), .val (.int (fv1 ((p4 >>> ((4 : Int32) &&& 31)) &&& (3 : Int32)) (2 : Int32))), .val (.int (1 : Int32)), .val (.ref b8), .val (.ref b9), .val (.ref b10), .val (.ref b11), .val (.ref b13), .val (.int (1 : Int32))]) rfl ?_
    show Steps p.tables e below (T18.setTop (mkF m 152 #[.val (.int p1), .val (.int p2), .val (.int p3), .val (.int p4), .val (.int (fv1 (p4 &&& (3 : Int32)) (2 : Int32))), .val (.int (fv1 ((p4 >>> ((2 : Int32) &&& 31)) &&& (3 : Int32)) (2 : Int32))), .val (.int (fv1 ((p4 >>> ((4 : Int32) &&& 31)) &&& (3 : Int32)) (2 : Int32))), .val (.int (1 : Int32)), .val (.ref b8), .val (.ref b9), .val (.ref b10), .val (.ref b11), .val (.ref b13), .val (.int (1 : Int32))] [])) _
    refine XS.iload X18.here hx rfl (hb hby at_152) rfl ?_
    show Steps p.tables e below (T18.setTop (mkF m 154 #[.val (.int p1), .val (.int p2), .val (.int p3), .val (.int p4), .val (.int (fv1 (p4 &&& (3 : Int32)) (2 : Int32))), .val (.int (fv1 ((p4 >>> ((2 : Int32) &&& 31)) &&& (3 : Int32)) (2 : Int32))), .val (.int (fv1 ((p4 >>> ((4 : Int32) &&& 31)) &&& (3 : Int32)) (2 : Int32))), .val (.int (1 : Int32)), .val (.ref b8), .val (.ref b9), .val (.ref b10), .val (.ref b11), .val (.ref b13), .val (.int (1 : Int32))] [(.int (1 : Int32))])) _
    refine XS.ifNo X18.here hx rfl (hb hby at_154) rfl ((if0 _ _).trans (feq hc154).1) ?_
    show Steps p.tables e below (T18.setTop (mkF m 157 #[.val (.int p1), .val (.int p2), .val (.int p3), .val (.int p4), .val (.int (fv1 (p4 &&& (3 : Int32)) (2 : Int32))), .val (.int (fv1 ((p4 >>> ((2 : Int32) &&& 31)) &&& (3 : Int32)) (2 : Int32))), .val (.int (fv1 ((p4 >>> ((4 : Int32) &&& 31)) &&& (3 : Int32)) (2 : Int32))), .val (.int (1 : Int32)), .val (.ref b8), .val (.ref b9), .val (.ref b10), .val (.ref b11), .val (.ref b13), .val (.int (1 : Int32))] [])) _
    refine XS.aload X18.here hx rfl (hb hby at_157) rfl rfl ?_
    show Steps p.tables e below (T18.setTop (mkF m 159 #[.val (.int p1), .val (.int p2), .val (.int p3), .val (.int p4), .val (.int (fv1 (p4 &&& (3 : Int32)) (2 : Int32))), .val (.int (fv1 ((p4 >>> ((2 : Int32) &&& 31)) &&& (3 : Int32)) (2 : Int32))), .val (.int (fv1 ((p4 >>> ((4 : Int32) &&& 31)) &&& (3 : Int32)) (2 : Int32))), .val (.int (1 : Int32)), .val (.ref b8), .val (.ref b9), .val (.ref b10), .val (.ref b11), .val (.ref b13), .val (.int (1 : Int32))] [(.ref b11)])) _
    refine st19.trans ?_
    show Steps p.tables e below (T19.setTop (mkF m 162 #[.val (.int p1), .val (.int p2), .val (.int p3), .val (.int p4), .val (.int (fv1 (p4 &&& (3 : Int32)) (2 : Int32))), .val (.int (fv1 ((p4 >>> ((2 : Int32) &&& 31)) &&& (3 : Int32)) (2 : Int32))), .val (.int (fv1 ((p4 >>> ((4 : Int32) &&& 31)) &&& (3 : Int32)) (2 : Int32))), .val (.int (1 : Int32)), .val (.ref b8), .val (.ref b9), .val (.ref b10), .val (.ref b11), .val (.ref b13), .val (.int (1 : Int32))] [(.ref b10)])) _
    refine XS.aload X19.here hx rfl (hb hby at_162) rfl rfl ?_
    show Steps p.tables e below (T19.setTop (mkF m 164 #[.val (.int p1), .val (.int p2), .val (.int p3), .val (.int p4), .val (.int (fv1 (p4 &&& (3 : Int32)) (2 : Int32))), .val (.int (fv1 ((p4 >>> ((2 : Int32) &&& 31)) &&& (3 : Int32)) (2 : Int32))), .val (.int (fv1 ((p4 >>> ((4 : Int32) &&& 31)) &&& (3 : Int32)) (2 : Int32))), .val (.int (1 : Int32)), .val (.ref b8), .val (.ref b9), .val (.ref b10), .val (.ref b11), .val (.ref b13), .val (.int (1 : Int32))] [(.ref b10), (.ref b10)])) _
    refine Jvm.RoadKit.acmp (g := (mkF m 164 #[.val (.int p1), .val (.int p2), .val (.int p3), .val (.int p4), .val (.int (fv1 (p4 &&& (3 : Int32)) (2 : Int32))), .val (.int (fv1 ((p4 >>> ((2 : Int32) &&& 31)) &&& (3 : Int32)) (2 : Int32))), .val (.int (fv1 ((p4 >>> ((4 : Int32) &&& 31)) &&& (3 : Int32)) (2 : Int32))), .val (.int (1 : Int32)), .val (.ref b8), .val (.ref b9), .val (.ref b10), .val (.ref b11), .val (.ref b13), .val (.int (1 : Int32))] [(.ref b10), (.ref b10)])) X19 hx rfl rfl rfl (pc0 := 164) (pc' := 167) (same := true) rfl (hb hby at_164) rfl (decide_eq_true rfl) (by decide) (by decide) ?_
    show Steps p.tables e below (T19.setTop (mkF m 167 #[.val (.int p1), .val (.int p2), .val (.int p3), .val (.int p4), .val (.int (fv1 (p4 &&& (3 : Int32)) (2 : Int32))), .val (.int (fv1 ((p4 >>> ((2 : Int32) &&& 31)) &&& (3 : Int32)) (2 : Int32))), .val (.int (fv1 ((p4 >>> ((4 : Int32) &&& 31)) &&& (3 : Int32)) (2 : Int32))), .val (.int (1 : Int32)), .val (.ref b8), .val (.ref b9), .val (.ref b10), .val (.ref b11), .val (.ref b13), .val (.int (1 : Int32))] [])) _
    refine XS.aload X19.here hx rfl (hb hby at_167) rfl rfl ?_
    show Steps p.tables e below (T19.setTop (mkF m 169 #[.val (.int p1), .val (.int p2), .val (.int p3), .val (.int p4), .val (.int (fv1 (p4 &&& (3 : Int32)) (2 : Int32))), .val (.int (fv1 ((p4 >>> ((2 : Int32) &&& 31)) &&& (3 : Int32)) (2 : Int32))), .val (.int (fv1 ((p4 >>> ((4 : Int32) &&& 31)) &&& (3 : Int32)) (2 : Int32))), .val (.int (1 : Int32)), .val (.ref b8), .val (.ref b9), .val (.ref b10), .val (.ref b11), .val (.ref b13), .val (.int (1 : Int32))] [(.ref b11)])) _
    refine st20.trans ?_
    show Steps p.tables e below (T20.setTop (mkF m 172 #[.val (.int p1), .val (.int p2), .val (.int p3), .val (.int p4), .val (.int (fv1 (p4 &&& (3 : Int32)) (2 : Int32))), .val (.int (fv1 ((p4 >>> ((2 : Int32) &&& 31)) &&& (3 : Int32)) (2 : Int32))), .val (.int (fv1 ((p4 >>> ((4 : Int32) &&& 31)) &&& (3 : Int32)) (2 : Int32))), .val (.int (1 : Int32)), .val (.ref b8), .val (.ref b9), .val (.ref b10), .val (.ref b11), .val (.ref b13), .val (.int (1 : Int32))] [(.ref b8)])) _
    refine XS.iloadN X20.here hx rfl (hb hby at_172) rfl ?_
    show Steps p.tables e below (T20.setTop (mkF m 173 #[.val (.int p1), .val (.int p2), .val (.int p3), .val (.int p4), .val (.int (fv1 (p4 &&& (3 : Int32)) (2 : Int32))), .val (.int (fv1 ((p4 >>> ((2 : Int32) &&& 31)) &&& (3 : Int32)) (2 : Int32))), .val (.int (fv1 ((p4 >>> ((4 : Int32) &&& 31)) &&& (3 : Int32)) (2 : Int32))), .val (.int (1 : Int32)), .val (.ref b8), .val (.ref b9), .val (.ref b10), .val (.ref b11), .val (.ref b13), .val (.int (1 : Int32))] [(.int p1), (.ref b8)])) _
    refine XS.iload X20.here hx rfl (hb hby at_173) rfl ?_
    show Steps p.tables e below (T20.setTop (mkF m 175 #[.val (.int p1), .val (.int p2), .val (.int p3), .val (.int p4), .val (.int (fv1 (p4 &&& (3 : Int32)) (2 : Int32))), .val (.int (fv1 ((p4 >>> ((2 : Int32) &&& 31)) &&& (3 : Int32)) (2 : Int32))), .val (.int (fv1 ((p4 >>> ((4 : Int32) &&& 31)) &&& (3 : Int32)) (2 : Int32))), .val (.int (1 : Int32)), .val (.ref b8), .val (.ref b9), .val (.ref b10), .val (.ref b11), .val (.ref b13), .val (.int (1 : Int32))] [(.int (fv1 (p4 &&& (3 : Int32)) (2 : Int32))), (.int p1), (.ref b8)])) _
    refine st21 _ ?_
    show Steps p.tables e below (T21.setTop (mkF m 178 #[.val (.int p1), .val (.int p2), .val (.int p3), .val (.int p4), .val (.int (fv1 (p4 &&& (3 : Int32)) (2 : Int32))), .val (.int (fv1 ((p4 >>> ((2 : Int32) &&& 31)) &&& (3 : Int32)) (2 : Int32))), .val (.int (fv1 ((p4 >>> ((4 : Int32) &&& 31)) &&& (3 : Int32)) (2 : Int32))), .val (.int (1 : Int32)), .val (.ref b8), .val (.ref b9), .val (.ref b10), .val (.ref b11), .val (.ref b13), .val (.int (1 : Int32))] [(.int (1 : Int32))])) _
    refine XS.ifNo X21.here hx rfl (hb hby at_178) rfl ((if0 _ _).trans (feq hc178).1) ?_
    show Steps p.tables e below (T21.setTop (mkF m 181 #[.val (.int p1), .val (.int p2), .val (.int p3), .val (.int p4), .val (.int (fv1 (p4 &&& (3 : Int32)) (2 : Int32))), .val (.int (fv1 ((p4 >>> ((2 : Int32) &&& 31)) &&& (3 : Int32)) (2 : Int32))), .val (.int (fv1 ((p4 >>> ((4 : Int32) &&& 31)) &&& (3 : Int32)) (2 : Int32))), .val (.int (1 : Int32)), .val (.ref b8), .val (.ref b9), .val (.ref b10), .val (.ref b11), .val (.ref b13), .val (.int (1 : Int32))] [])) _
    refine XS.aload X21.here hx rfl (hb hby at_181) rfl rfl ?_
    show Steps p.tables e below (T21.setTop (mkF m 183 #[.val (.int p1), .val (.int p2), .val (.int p3), .val (.int p4), .val (.int (fv1 (p4 &&& (3 : Int32)) (2 : Int32))), .val (.int (fv1 ((p4 >>> ((2 : Int32) &&& 31)) &&& (3 : Int32)) (2 : Int32))), .val (.int (fv1 ((p4 >>> ((4 : Int32) &&& 31)) &&& (3 : Int32)) (2 : Int32))), .val (.int (1 : Int32)), .val (.ref b8), .val (.ref b9), .val (.ref b10), .val (.ref b11), .val (.ref b13), .val (.int (1 : Int32))] [(.ref b11)])) _
    refine st22.trans ?_
    show Steps p.tables e below (T22.setTop (mkF m 186 #[.val (.int p1), .val (.int p2), .val (.int p3), .val (.int p4), .val (.int (fv1 (p4 &&& (3 : Int32)) (2 : Int32))), .val (.int (fv1 ((p4 >>> ((2 : Int32) &&& 31)) &&& (3 : Int32)) (2 : Int32))), .val (.int (fv1 ((p4 >>> ((4 : Int32) &&& 31)) &&& (3 : Int32)) (2 : Int32))), .val (.int (1 : Int32)), .val (.ref b8), .val (.ref b9), .val (.ref b10), .val (.ref b11), .val (.ref b13), .val (.int (1 : Int32))] [(.ref b9)])) _
    refine XS.iloadN X22.here hx rfl (hb hby at_186) rfl ?_
    show Steps p.tables e below (T22.setTop (mkF m 187 #[.val (.int p1), .val (.int p2), .val (.int p3), .val (.int p4), .val (.int (fv1 (p4 &&& (3 : Int32)) (2 : Int32))), .val (.int (fv1 ((p4 >>> ((2 : Int32) &&& 31)) &&& (3 : Int32)) (2 : Int32))), .val (.int (fv1 ((p4 >>> ((4 : Int32) &&& 31)) &&& (3 : Int32)) (2 : Int32))), .val (.int (1 : Int32)), .val (.ref b8), .val (.ref b9), .val (.ref b10), .val (.ref b11), .val (.ref b13), .val (.int (1 : Int32))] [(.int p2), (.ref b9)])) _
    refine XS.iload X22.here hx rfl (hb hby at_187) rfl ?_
    show Steps p.tables e below (T22.setTop (mkF m 189 #[.val (.int p1), .val (.int p2), .val (.int p3), .val (.int p4), .val (.int (fv1 (p4 &&& (3 : Int32)) (2 : Int32))), .val (.int (fv1 ((p4 >>> ((2 : Int32) &&& 31)) &&& (3 : Int32)) (2 : Int32))), .val (.int (fv1 ((p4 >>> ((4 : Int32) &&& 31)) &&& (3 : Int32)) (2 : Int32))), .val (.int (1 : Int32)), .val (.ref b8), .val (.ref b9), .val (.ref b10), .val (.ref b11), .val (.ref b13), .val (.int (1 : Int32))] [(.int (fv1 ((p4 >>> ((2 : Int32) &&& 31)) &&& (3 : Int32)) (2 : Int32))), (.int p2), (.ref b9)])) _
    refine st23 _ ?_
    show Steps p.tables e below (T23.setTop (mkF m 192 #[.val (.int p1), .val (.int p2), .val (.int p3), .val (.int p4), .val (.int (fv1 (p4 &&& (3 : Int32)) (2 : Int32))), .val (.int (fv1 ((p4 >>> ((2 : Int32) &&& 31)) &&& (3 : Int32)) (2 : Int32))), .val (.int (fv1 ((p4 >>> ((4 : Int32) &&& 31)) &&& (3 : Int32)) (2 : Int32))), .val (.int (1 : Int32)), .val (.ref b8), .val (.ref b9), .val (.ref b10), .val (.ref b11), .val (.ref b13), .val (.int (1 : Int32))] [(.int (1 : Int32))])) _
    refine XS.ifNo X23.here hx rfl (hb hby at_192) rfl ((if0 _ _).trans (feq hc192).1) ?_
    show Steps p.tables e below (T23.setTop (mkF m 195 #[.val (.int p1), .val (.int p2), .val (.int p3), .val (.int p4), .val (.int (fv1 (p4 &&& (3 : Int32)) (2 : Int32))), .val (.int (fv1 ((p4 >>> ((2 : Int32) &&& 31)) &&& (3 : Int32)) (2 : Int32))), .val (.int (fv1 ((p4 >>> ((4 : Int32) &&& 31)) &&& (3 : Int32)) (2 : Int32))), .val (.int (1 : Int32)), .val (.ref b8), .val (.ref b9), .val (.ref b10), .val (.ref b11), .val (.ref b13), .val (.int (1 : Int32))] [])) _
    refine XS.aload X23.here hx rfl (hb hby at_195) rfl rfl ?_
    show Steps p.tables e below (T23.setTop (mkF m 197 #[.val (.int p1), .val (.int p2), .val (.int p3), .val (.int p4), .val (.int (fv1 (p4 &&& (3 : Int32)) (2 : Int32))), .val (.int (fv1 ((p4 >>> ((2 : Int32) &&& 31)) &&& (3 : Int32)) (2 : Int32))), .val (.int (fv1 ((p4 >>> ((4 : Int32) &&& 31)) &&& (3 : Int32)) (2 : Int32))), .val (.int (1 : Int32)), .val (.ref b8), .val (.ref b9), .val (.ref b10), .val (.ref b11), .val (.ref b13), .val (.int (1 : Int32))] [(.ref b10)])) _
    refine XS.ifnullNo X23.here hx rfl (hb hby at_197) rfl ?_
    show Steps p.tables e below (T23.setTop (mkF m 200 #[.val (.int p1), .val (.int p2), .val (.int p3), .val (.int p4), .val (.int (fv1 (p4 &&& (3 : Int32)) (2 : Int32))), .val (.int (fv1 ((p4 >>> ((2 : Int32) &&& 31)) &&& (3 : Int32)) (2 : Int32))), .val (.int (fv1 ((p4 >>> ((4 : Int32) &&& 31)) &&& (3 : Int32)) (2 : Int32))), .val (.int (1 : Int32)), .val (.ref b8), .val (.ref b9), .val (.ref b10), .val (.ref b11), .val (.ref b13), .val (.int (1 : Int32))] [])) _
    refine XS.aload X23.here hx rfl (hb hby at_200) rfl rfl ?_
    show Steps p.tables e below (T23.setTop (mkF m 202 #[.val (.int p1), .val (.int p2), .val (.int p3), .val (.int p4), .val (.int (fv1 (p4 &&& (3 : Int32)) (2 : Int32))), .val (.int (fv1 ((p4 >>> ((2 : Int32) &&& 31)) &&& (3 : Int32)) (2 : Int32))), .val (.int (fv1 ((p4 >>> ((4 : Int32) &&& 31)) &&& (3 : Int32)) (2 : Int32))), .val (.int (1 : Int32)), .val (.ref b8), .val (.ref b9), .val (.ref b10), .val (.ref b11), .val (.ref b13), .val (.int (1 : Int32))] [(.ref b10)])) _
    refine XS.iloadN X23.here hx rfl (hb hby at_202) rfl ?_
    show Steps p.tables e below (T23.setTop (mkF m 203 #[.val (.int p1), .val (.int p2), .val (.int p3), .val (.int p4), .val (.int (fv1 (p4 &&& (3 : Int32)) (2 : Int32))), .val (.int (fv1 ((p4 >>> ((2 : Int32) &&& 31)) &&& (3 : Int32)) (2 : Int32))), .val (.int (fv1 ((p4 >>> ((4 : Int32) &&& 31)) &&& (3 : Int32)) (2 : Int32))), .val (.int (1 : Int32)), .val (.ref b8), .val (.ref b9), .val (.ref b10), .val (.ref b11), .val (.ref b13), .val (.int (1 : Int32))] [(.int p3), (.ref b10)])) _
    refine XS.iload X23.here hx rfl (hb hby at_203) rfl ?_
    show Steps p.tables e below (T23.setTop (mkF m 205 #[.val (.int p1), .val (.int p2), .val (.int p3), .val (.int p4), .val (.int (fv1 (p4 &&& (3 : Int32)) (2 : Int32))), .val (.int (fv1 ((p4 >>> ((2 : Int32) &&& 31)) &&& (3 : Int32)) (2 : Int32))), .val (.int (fv1 ((p4 >>> ((4 : Int32) &&& 31)) &&& (3 : Int32)) (2 : Int32))), .val (.int (1 : Int32)), .val (.ref b8), .val (.ref b9), .val (.ref b10), .val (.ref b11), .val (.ref b13), .val (.int (1 : Int32))] [(.int (fv1 ((p4 >>> ((4 : Int32) &&& 31)) &&& (3 : Int32)) (2 : Int32))), (.int p3), (.ref b10)])) _
    refine st24 _ ?_
    show Steps p.tables e below (T24.setTop (mkF m 208 #[.val (.int p1), .val (.int p2), .val (.int p3), .val (.int p4), .val (.int (fv1 (p4 &&& (3 : Int32)) (2 : Int32))), .val (.int (fv1 ((p4 >>> ((2 : Int32) &&& 31)) &&& (3 : Int32)) (2 : Int32))), .val (.int (fv1 ((p4 >>> ((4 : Int32) &&& 31)) &&& (3 : Int32)) (2 : Int32))), .val (.int (1 : Int32)), .val (.ref b8), .val (.ref b9), .val (.ref b10), .val (.ref b11), .val (.ref b13), .val (.int (1 : Int32))] [(.int (1 : Int32))])) _
    refine XS.ifNo X24.here hx rfl (hb hby at_208) rfl ((if0 _ _).trans (feq hc208).1) ?_
    show Steps p.tables e below (T24.setTop (mkF m 211 #[.val (.int p1), .val (.int p2), .val (.int p3), .val (.int p4), .val (.int (fv1 (p4 &&& (3 : Int32)) (2 : Int32))), .val (.int (fv1 ((p4 >>> ((2 : Int32) &&& 31)) &&& (3 : Int32)) (2 : Int32))), .val (.int (fv1 ((p4 >>> ((4 : Int32) &&& 31)) &&& (3 : Int32)) (2 : Int32))), .val (.int (1 : Int32)), .val (.ref b8), .val (.ref b9), .val (.ref b10), .val (.ref b11), .val (.ref b13), .val (.int (1 : Int32))] [])) _
    refine XS.iconst X24.here hx rfl (hb hby at_211) ?_
    show Steps p.tables e below (T24.setTop (mkF m 212 #[.val (.int p1), .val (.int p2), .val (.int p3), .val (.int p4), .val (.int (fv1 (p4 &&& (3 : Int32)) (2 : Int32))), .val (.int (fv1 ((p4 >>> ((2 : Int32) &&& 31)) &&& (3 : Int32)) (2 : Int32))), .val (.int (fv1 ((p4 >>> ((4 : Int32) &&& 31)) &&& (3 : Int32)) (2 : Int32))), .val (.int (1 : Int32)), .val (.ref b8), .val (.ref b9), .val (.ref b10), .val (.ref b11), .val (.ref b13), .val (.int (1 : Int32))] [(.int (1 : Int32))])) _
    refine XS.goto X24.here hx rfl (pc0 := 212) (pc' := 216) rfl (hb hby at_212) (by decide) (by decide) ?_
    show Steps p.tables e below (T24.setTop (mkF m 216 #[.val (.int p1), .val (.int p2), .val (.int p3), .val (.int p4), .val (.int (fv1 (p4 &&& (3 : Int32)) (2 : Int32))), .val (.int (fv1 ((p4 >>> ((2 : Int32) &&& 31)) &&& (3 : Int32)) (2 : Int32))), .val (.int (fv1 ((p4 >>> ((4 : Int32) &&& 31)) &&& (3 : Int32)) (2 : Int32))), .val (.int (1 : Int32)), .val (.ref b8), .val (.ref b9), .val (.ref b10), .val (.ref b11), .val (.ref b13), .val (.int (1 : Int32))] [(.int (1 : Int32))])) _
    refine XS.istore X24.here hx rfl (hb hby at_216) rfl (l' := #[.val (.int p1), .val (.int p2), .val (.int p3), .val (.int p4), .val (.int (fv1 (p4 &&& (3 : Int32)) (2 : Int32))), .val (.int (fv1 ((p4 >>> ((2 : Int32) &&& 31)) &&& (3 : Int32)) (2 : Int32))), .val (.int (fv1 ((p4 >>> ((4 : Int32) &&& 31)) &&& (3 : Int32)) (2 : Int32))), .val (.int (1 : Int32)), .val (.ref b8), .val (.ref b9), .val (.ref b10), .val (.ref b11), .val (.ref b13), .val (.int (1 : Int32))]) rfl ?_
    show Steps p.tables e below (T24.setTop (mkF m 218 #[.val (.int p1), .val (.int p2), .val (.int p3), .val (.int p4), .val (.int (fv1 (p4 &&& (3 : Int32)) (2 : Int32))), .val (.int (fv1 ((p4 >>> ((2 : Int32) &&& 31)) &&& (3 : Int32)) (2 : Int32))), .val (.int (fv1 ((p4 >>> ((4 : Int32) &&& 31)) &&& (3 : Int32)) (2 : Int32))), .val (.int (1 : Int32)), .val (.ref b8), .val (.ref b9), .val (.ref b10), .val (.ref b11), .val (.ref b13), .val (.int (1 : Int32))] [])) _
    refine XS.iload X24.here hx rfl (hb hby at_218) rfl ?_
    show Steps p.tables e below (T24.setTop (mkF m 220 #[.val (.int p1), .val (.int p2), .val (.int p3), .val (.int p4), .val (.int (fv1 (p4 &&& (3 : Int32)) (2 : Int32))), .val (.int (fv1 ((p4 >>> ((2 : Int32) &&& 31)) &&& (3 : Int32)) (2 : Int32))), .val (.int (fv1 ((p4 >>> ((4 : Int32) &&& 31)) &&& (3 : Int32)) (2 : Int32))), .val (.int (1 : Int32)), .val (.ref b8), .val (.ref b9), .val (.ref b10), .val (.ref b11), .val (.ref b13), .val (.int (1 : Int32))] [(.int (1 : Int32))])) _
    exact retN X24 hx (t := .boolean) Bd.returns (by simp) (hb hby at_220) hr
  · show QF n0 _ T24.heap _
    rw [eh24]
    exact ⟨rfl, N24, trivial⟩
set_option maxRecDepth 65536 in
set_option maxHeartbeats 40000000 in
theorem rm0_none (l : Launch) (Z : State) (a0 : Array Value) (hw : ∀ d ∈ tables_1, d.before a0 Z = true) (ws : List Jvm.Cond) (p1 : Int32) (p2 : Int32) (p3 : Int32) (p4 : Int32) (h0 : Heap) (n0 : Nat) (Z0 : n0 ≤ h0.size) (hc37 : ((p4 >>> ((6 : Int32) &&& 31)) &&& (1 : Int32)) = (0 : Int32)) (hc128 : ¬ ((1 : Int32) = (0 : Int32))) (hc142 : ¬ ((1 : Int32) = (0 : Int32))) (hc154 : ¬ ((1 : Int32) = (0 : Int32))) (hc178 : ¬ ((1 : Int32) = (0 : Int32))) (hc192 : ¬ ((1 : Int32) = (0 : Int32))) :
    MetFree l x (head1 (Jvm.Cond.code x code maxLocals ret :: ws) room_1) (fun a U => a = #[(.int p1), (.int p2), (.int p3), (.int p4)] ∧ Z.Warmed39 U.vm ∧ U.heap = h0) (fun _ _ _ _ _ => True) (fun _ U o U' => ∃ v L, o = .returned v ∧ QF n0 v U'.heap L ∧ FrameEnd U o U' L room_1.cells room_1.slots) := by
  refine MetFree.of_bodySF (plainFor_of_name pn_0) hisR ?_
  intro p e s m args below meth c s₁ Bd hml0 hP hK
  obtain ⟨rfl, hZ, hh⟩ := hP
  have hx := Bd.exec
  have hby := Bd.bytes
  have hml : c.maxLocals = 14 := hml0
  have hown : s.vm.findClass "com/example/courteous_crawler/courteouscrawler/core/WireCopyWithoutBodyPinLaw" = some m.cls := findClass_of_methodNamed Bd.named
  have hnm := (name_of_methodNamed Bd.named Bd.method).1
  have X0 : Stand p l e room_1 s m #[(.int p1), (.int p2), (.int p3), (.int p4)] below meth c s₁ [] 0 0 := Stand.of_body Bd
  have e0 : s₁.heap = h0 := by rw [← hh, Bd.state]; rfl
  have N0 := Fr.nil n0
  have pre0 : ∀ t, Steps p.tables e below (s₁.setTop (mkF m 0 #[.val (.int p1), .val (.int p2), .val (.int p3), .val (.int p4), .unset, .unset, .unset, .unset, .unset, .unset, .unset, .unset, .unset, .unset] [])) t → Steps p.tables e below (s₁.setTop (entryFrame m #[(.int p1), (.int p2), (.int p3), (.int p4)] maxLocals)) t := fun t k => castTop (ef_0 m p1 p2 p3 p4) k
  -- 3. LAWS
  -- pc 4: java/lang/Math.min by its contract rm1
  obtain ⟨_, _, ⟨T5, L5, k5, n5⟩, -, X5, ⟨Lc5, hQ5, l5, y5, z5⟩, st5⟩ := Jvm.LawKit.callS X0 hx (y := (⟨"java/lang/Math", "min", "(II)I"⟩ : MethodName)) hown (mvT hZ (hw _ (List.mem_of_getElem? (i := 0) rfl))) (mvT hZ (hw _ (List.mem_of_getElem? (i := 1) rfl))) (mvT hZ (hw _ (List.mem_of_getElem? (i := 2) rfl))) (mvT hZ (hw _ (List.mem_of_getElem? (i := 3) rfl))) (by decide) (backOf (W := 0) (rm1 l Z a0 hw [] (p4 &&& (3 : Int32)) (2 : Int32) h0 n0 Z0) hZ (hw _ (List.mem_of_getElem? (i := 3) rfl)) (hw _ (List.mem_of_getElem? (i := 2) rfl)) (by decide) (by decide)) (g := (mkF m 4 #[.val (.int p1), .val (.int p2), .val (.int p3), .val (.int p4), .unset, .unset, .unset, .unset, .unset, .unset, .unset, .unset, .unset, .unset] [(.int (2 : Int32)), (.int (p4 &&& (3 : Int32)))])) rfl (by rw [hml]; rfl) (argsL := [(.int (p4 &&& (3 : Int32))), (.int (2 : Int32))]) (rest := []) (lenOf pd_0_0 rfl) rfl (by show 2 * 0 + _ ≤ _; exact Nat.le_of_eq rfl) (hb hby at_4) (fun _ _ => ⟨rfl, e0, (by decide : 0 + 0 ≤ _), (by decide : 0 + 0 ≤ _)⟩)
  dsimp only [Pt.U, Pt.locs, Pt.cells, Pt.slots] at X5 l5 y5 z5 st5 hQ5
  subst l5 y5 z5
  obtain ⟨rfl, N5q, eh5⟩ := hQ5
  have N5 := Fr.app N0 N5q
  -- pc 15: java/lang/Math.min by its contract rm1
  obtain ⟨_, _, ⟨T6, L6, k6, n6⟩, -, X6, ⟨Lc6, hQ6, l6, y6, z6⟩, st6⟩ := Jvm.LawKit.callS X5 hx (y := (⟨"java/lang/Math", "min", "(II)I"⟩ : MethodName)) hown (mvT hZ (hw _ (List.mem_of_getElem? (i := 0) rfl))) (mvT hZ (hw _ (List.mem_of_getElem? (i := 1) rfl))) (mvT hZ (hw _ (List.mem_of_getElem? (i := 2) rfl))) (mvT hZ (hw _ (List.mem_of_getElem? (i := 3) rfl))) (by decide) (backOf (W := 0) (rm1 l Z a0 hw [] ((p4 >>> ((2 : Int32) &&& 31)) &&& (3 : Int32)) (2 : Int32) h0 n0 Z0) hZ (hw _ (List.mem_of_getElem? (i := 3) rfl)) (hw _ (List.mem_of_getElem? (i := 2) rfl)) (by decide) (by decide)) (g := (mkF m 15 #[.val (.int p1), .val (.int p2), .val (.int p3), .val (.int p4), .val (.int (fv1 (p4 &&& (3 : Int32)) (2 : Int32))), .unset, .unset, .unset, .unset, .unset, .unset, .unset, .unset, .unset] [(.int (2 : Int32)), (.int ((p4 >>> ((2 : Int32) &&& 31)) &&& (3 : Int32)))])) rfl (by rw [hml]; rfl) (argsL := [(.int ((p4 >>> ((2 : Int32) &&& 31)) &&& (3 : Int32))), (.int (2 : Int32))]) (rest := []) (lenOf pd_0_0 rfl) rfl (by show 2 * 0 + _ ≤ _; exact Nat.le_of_eq rfl) (hb hby at_15) (fun _ _ => ⟨rfl, eh5, (by decide : 0 + 0 ≤ _), (by decide : 0 + 0 ≤ _)⟩)
  dsimp only [Pt.U, Pt.locs, Pt.cells, Pt.slots] at X6 l6 y6 z6 st6 hQ6
  subst l6 y6 z6
  obtain ⟨rfl, N6q, eh6⟩ := hQ6
  have N6 := Fr.app N5 N6q
  -- pc 26: java/lang/Math.min by its contract rm1
  obtain ⟨_, _, ⟨T7, L7, k7, n7⟩, -, X7, ⟨Lc7, hQ7, l7, y7, z7⟩, st7⟩ := Jvm.LawKit.callS X6 hx (y := (⟨"java/lang/Math", "min", "(II)I"⟩ : MethodName)) hown (mvT hZ (hw _ (List.mem_of_getElem? (i := 0) rfl))) (mvT hZ (hw _ (List.mem_of_getElem? (i := 1) rfl))) (mvT hZ (hw _ (List.mem_of_getElem? (i := 2) rfl))) (mvT hZ (hw _ (List.mem_of_getElem? (i := 3) rfl))) (by decide) (backOf (W := 0) (rm1 l Z a0 hw [] ((p4 >>> ((4 : Int32) &&& 31)) &&& (3 : Int32)) (2 : Int32) h0 n0 Z0) hZ (hw _ (List.mem_of_getElem? (i := 3) rfl)) (hw _ (List.mem_of_getElem? (i := 2) rfl)) (by decide) (by decide)) (g := (mkF m 26 #[.val (.int p1), .val (.int p2), .val (.int p3), .val (.int p4), .val (.int (fv1 (p4 &&& (3 : Int32)) (2 : Int32))), .val (.int (fv1 ((p4 >>> ((2 : Int32) &&& 31)) &&& (3 : Int32)) (2 : Int32))), .unset, .unset, .unset, .unset, .unset, .unset, .unset, .unset] [(.int (2 : Int32)), (.int ((p4 >>> ((4 : Int32) &&& 31)) &&& (3 : Int32)))])) rfl (by rw [hml]; rfl) (argsL := [(.int ((p4 >>> ((4 : Int32) &&& 31)) &&& (3 : Int32))), (.int (2 : Int32))]) (rest := []) (lenOf pd_0_0 rfl) rfl (by show 2 * 0 + _ ≤ _; exact Nat.le_of_eq rfl) (hb hby at_26) (fun _ _ => ⟨rfl, eh6, (by decide : 0 + 0 ≤ _), (by decide : 0 + 0 ≤ _)⟩)
  dsimp only [Pt.U, Pt.locs, Pt.cells, Pt.slots] at X7 l7 y7 z7 st7 hQ7
  subst l7 y7 z7
  obtain ⟨rfl, N7q, eh7⟩ := hQ7
  have N7 := Fr.app N6 N7q
  -- pc 50: com/example/courteous_crawler/courteouscrawler/core/WireCopyWithoutBodyPinLaw.make by its contract rm2
  obtain ⟨_, _, ⟨T8, L8, k8, n8⟩, -, X8, ⟨Lc8, hQ8, l8, y8, z8⟩, st8⟩ := Jvm.LawKit.callS X7 hx (y := (⟨"com/example/courteous_crawler/courteouscrawler/core/WireCopyWithoutBodyPinLaw", "make", "(II)[B"⟩ : MethodName)) hown (mvT hZ (hw _ (List.mem_of_getElem? (i := 4) rfl))) (mvT hZ (hw _ (List.mem_of_getElem? (i := 5) rfl))) (mvT hZ (hw _ (List.mem_of_getElem? (i := 6) rfl))) (mvT hZ (hw _ (List.mem_of_getElem? (i := 7) rfl))) (by decide) (backOf (W := 0) (rm2 l Z a0 hw [] p1 (fv1 (p4 &&& (3 : Int32)) (2 : Int32)) h0 n0 Z0 (own_len _)) hZ (hw _ (List.mem_of_getElem? (i := 7) rfl)) (hw _ (List.mem_of_getElem? (i := 6) rfl)) (by decide) (by decide)) (g := (mkF m 50 #[.val (.int p1), .val (.int p2), .val (.int p3), .val (.int p4), .val (.int (fv1 (p4 &&& (3 : Int32)) (2 : Int32))), .val (.int (fv1 ((p4 >>> ((2 : Int32) &&& 31)) &&& (3 : Int32)) (2 : Int32))), .val (.int (fv1 ((p4 >>> ((4 : Int32) &&& 31)) &&& (3 : Int32)) (2 : Int32))), .val (.int (0 : Int32)), .unset, .unset, .unset, .unset, .unset, .unset] [(.int (fv1 (p4 &&& (3 : Int32)) (2 : Int32))), (.int p1)])) rfl (by rw [hml]; rfl) (argsL := [(.int p1), (.int (fv1 (p4 &&& (3 : Int32)) (2 : Int32)))]) (rest := []) (lenOf pd_0_1 rfl) rfl (by show 2 * 0 + _ ≤ _; exact Nat.le_of_eq rfl) (hb hby at_50) (fun _ _ => ⟨rfl, eh7, (by decide : 0 + 1 ≤ _), (by decide : 0 + 2 ≤ _)⟩)
  dsimp only [Pt.U, Pt.locs, Pt.cells, Pt.slots] at X8 l8 y8 z8 st8 hQ8
  subst l8 y8 z8
  obtain ⟨b8, rfl, N8q, g8, KQ8', M_b8⟩ := hQ8
  have N8 := Fr.app N7 N8q
  have g_b8 : n0 ≤ b8 := Nat.le_trans Z0 (Nat.le_of_eq g8.symm)
  have sz_b8 : h0.size ≤ b8 := Nat.le_trans (Keep.refl h0 []).1 (Nat.le_of_eq g8.symm)
  have KQ8 : Keep h0 T8.heap [] := KQ8'
  have K8 : Keep h0 T8.heap [] := (Keep.refl h0 []).trans KQ8 all0
  -- pc 58: com/example/courteous_crawler/courteouscrawler/core/WireCopyWithoutBodyPinLaw.make by its contract rm2
  obtain ⟨_, _, ⟨T9, L9, k9, n9⟩, -, X9, ⟨Lc9, hQ9, l9, y9, z9⟩, st9⟩ := Jvm.LawKit.callS X8 hx (y := (⟨"com/example/courteous_crawler/courteouscrawler/core/WireCopyWithoutBodyPinLaw", "make", "(II)[B"⟩ : MethodName)) hown (mvT hZ (hw _ (List.mem_of_getElem? (i := 4) rfl))) (mvT hZ (hw _ (List.mem_of_getElem? (i := 5) rfl))) (mvT hZ (hw _ (List.mem_of_getElem? (i := 6) rfl))) (mvT hZ (hw _ (List.mem_of_getElem? (i := 7) rfl))) (by decide) (backOf (W := 0) (rm2 l Z a0 hw [] p2 (fv1 ((p4 >>> ((2 : Int32) &&& 31)) &&& (3 : Int32)) (2 : Int32)) T8.heap n0 (Nat.le_trans Z0 KQ8.1) (own_len _)) hZ (hw _ (List.mem_of_getElem? (i := 7) rfl)) (hw _ (List.mem_of_getElem? (i := 6) rfl)) (by decide) (by decide)) (g := (mkF m 58 #[.val (.int p1), .val (.int p2), .val (.int p3), .val (.int p4), .val (.int (fv1 (p4 &&& (3 : Int32)) (2 : Int32))), .val (.int (fv1 ((p4 >>> ((2 : Int32) &&& 31)) &&& (3 : Int32)) (2 : Int32))), .val (.int (fv1 ((p4 >>> ((4 : Int32) &&& 31)) &&& (3 : Int32)) (2 : Int32))), .val (.int (0 : Int32)), .val (.ref b8), .unset, .unset, .unset, .unset, .unset] [(.int (fv1 ((p4 >>> ((2 : Int32) &&& 31)) &&& (3 : Int32)) (2 : Int32))), (.int p2)])) rfl (by rw [hml]; rfl) (argsL := [(.int p2), (.int (fv1 ((p4 >>> ((2 : Int32) &&& 31)) &&& (3 : Int32)) (2 : Int32)))]) (rest := []) (lenOf pd_0_1 rfl) rfl (by show 2 * 0 + _ ≤ _; exact Nat.le_of_eq rfl) (hb hby at_58) (fun _ _ => ⟨rfl, rfl, (by decide : 1 + 1 ≤ _), (by decide : 2 + 2 ≤ _)⟩)
  dsimp only [Pt.U, Pt.locs, Pt.cells, Pt.slots] at X9 l9 y9 z9 st9 hQ9
  subst l9 y9 z9
  obtain ⟨b9, rfl, N9q, g9, KQ9', M_b9⟩ := hQ9
  have N9 := Fr.app N8 N9q
  have g_b9 : n0 ≤ b9 := Nat.le_trans (Nat.le_trans Z0 KQ8.1) (Nat.le_of_eq g9.symm)
  have sz_b9 : h0.size ≤ b9 := Nat.le_trans K8.1 (Nat.le_of_eq g9.symm)
  have KQ9 : Keep T8.heap T9.heap [] := KQ9'
  have K9 : Keep h0 T9.heap [] := K8.trans KQ9 all0
  obtain ⟨T10, h10, X10, e10, E10, A10, D10, -, st10⟩ := newO X9 hx hZ hown (hw _ (List.mem_of_getElem? (i := 9) rfl)) (hw _ (List.mem_of_getElem? (i := 10) rfl)) (hw _ (List.mem_of_getElem? (i := 11) rfl)) rfl (g := (mkF m 80 #[.val (.int p1), .val (.int p2), .val (.int p3), .val (.int p4), .val (.int (fv1 (p4 &&& (3 : Int32)) (2 : Int32))), .val (.int (fv1 ((p4 >>> ((2 : Int32) &&& 31)) &&& (3 : Int32)) (2 : Int32))), .val (.int (fv1 ((p4 >>> ((4 : Int32) &&& 31)) &&& (3 : Int32)) (2 : Int32))), .val (.int (0 : Int32)), .val (.ref b8), .val (.ref b9), .val .null, .unset, .unset, .unset] [])) rfl (hb hby at_80) (by decide) (by decide)
  obtain ⟨b10, g10⟩ : ∃ z, z = T9.heap.size := ⟨_, rfl⟩      -- the fresh object's address
  rw [← g10] at A10 D10 st10      -- A10 : Exa Z h10 b10 "com/example/courteous_crawler/courteouscrawler/core/WireCopy"; E10 : Ext T9.heap h10 (carries every older fact: .ext E10)
  have F_request_b10 : Fld Z h10 b10 "com/example/courteous_crawler/courteouscrawler/core/WireCopy" "request" "[B" .null := D10 (Or.inr (hw _ (List.mem_of_getElem? (i := 24) rfl))) (ty := (.array .byte)) (by decide)
  have F_head_b10 : Fld Z h10 b10 "com/example/courteous_crawler/courteouscrawler/core/WireCopy" "head" "[B" .null := D10 (Or.inr (hw _ (List.mem_of_getElem? (i := 26) rfl))) (ty := (.array .byte)) (by decide)
  have F_framedBody_b10 : Fld Z h10 b10 "com/example/courteous_crawler/courteouscrawler/core/WireCopy" "framedBody" "[B" .null := D10 (Or.inr (hw _ (List.mem_of_getElem? (i := 28) rfl))) (ty := (.array .byte)) (by decide)
  have E_b10 := A10
  have g_b10 : n0 ≤ b10 := Nat.le_trans (Nat.le_trans (Nat.le_trans Z0 KQ8.1) KQ9.1) (Nat.le_of_eq g10.symm)
  have sz_b10 : h0.size ≤ b10 := (Nat.le_trans K9.1 (Nat.le_of_eq g10.symm))
  have K10 : Keep h0 h10 [] := K9.ext E10
  -- pc 90: the constructor of com/example/courteous_crawler/courteouscrawler/core/WireCopy by its contract rm3
  obtain ⟨_, _, ⟨T11, L11, k11, n11⟩, -, X11, ⟨Lc11, hQ11, l11, y11, z11⟩, st11⟩ := X10.specialBack hx (y := (⟨"com/example/courteous_crawler/courteouscrawler/core/WireCopy", "<init>", "([B[B[B)V"⟩ : MethodName)) rfl hown (mvT hZ (hw _ (List.mem_of_getElem? (i := 12) rfl))) (mvT hZ (hw _ (List.mem_of_getElem? (i := 13) rfl))) (mvT hZ (hw _ (List.mem_of_getElem? (i := 14) rfl))) (by decide) (backOf (W := 1) (rm3n l Z a0 hw [] b10 b8 b9 .null .null .null h10 n0 (Nat.le_trans (Nat.le_trans (Nat.le_trans Z0 KQ8.1) KQ9.1) E10.1) E_b10 F_request_b10 g_b10 F_head_b10 F_framedBody_b10) hZ (hw _ (List.mem_of_getElem? (i := 14) rfl)) (hw _ (List.mem_of_getElem? (i := 11) rfl)) (by decide) (by decide)) (g := (mkF m 90 #[.val (.int p1), .val (.int p2), .val (.int p3), .val (.int p4), .val (.int (fv1 (p4 &&& (3 : Int32)) (2 : Int32))), .val (.int (fv1 ((p4 >>> ((2 : Int32) &&& 31)) &&& (3 : Int32)) (2 : Int32))), .val (.int (fv1 ((p4 >>> ((4 : Int32) &&& 31)) &&& (3 : Int32)) (2 : Int32))), .val (.int (0 : Int32)), .val (.ref b8), .val (.ref b9), .val .null, .unset, .unset, .unset] [.null, (.ref b9), (.ref b8), (.ref b10), (.ref b10)])) rfl (by rw [hml]; rfl) (Steps.refl _) (a := b10) (argsL := [(.ref b8), (.ref b9), .null]) (rest := [(.ref b10)]) (lenOf pd_0_2 rfl) rfl (by show 2 * 0 + _ ≤ _; exact Nat.le_of_eq rfl) (hb hby at_90) (fun _ _ => ⟨rfl, e10, (by decide : 3 + 0 ≤ _), (by decide : 7 + 0 ≤ _)⟩)
  dsimp only [Pt.U, Pt.locs, Pt.cells, Pt.slots] at X11 l11 y11 z11 st11 hQ11
  subst l11 y11 z11
  obtain ⟨rfl, N11q, KQ11', E11q, Fr11q, Fh11q, Fb11q⟩ := hQ11
  have N11 := Fr.app N9 N11q
  have KQ11 : Keep h10 T11.heap [b10] := KQ11'
  have K11 : Keep h0 T11.heap [] := K10.trans KQ11 (allS (Or.inr sz_b10) all0)
  -- pc 97: com/example/courteous_crawler/courteouscrawler/core/WireCopy.withoutBody by the contract of the body that the receiver's class selects, rm6
  obtain ⟨cq12, kq12, q12a, q12b, q12c⟩ := isOf hZ rfl E11q
  obtain ⟨_, _, ⟨T12, L12, k12, n12⟩, -, X12, ⟨Lc12, hQ12, l12, y12, z12⟩, st12⟩ := X11.virtualBack hx (y := (⟨"com/example/courteous_crawler/courteouscrawler/core/WireCopy", "withoutBody", "()Lcom/example/courteous_crawler/courteouscrawler/core/WireCopy;"⟩ : MethodName)) (z := (⟨"com/example/courteous_crawler/courteouscrawler/core/WireCopy", "withoutBody", "()Lcom/example/courteous_crawler/courteouscrawler/core/WireCopy;"⟩ : MethodName)) hown (mvT hZ (hw _ (List.mem_of_getElem? (i := 29) rfl))) (mvT hZ (hw _ (List.mem_of_getElem? (i := 30) rfl))) (notFace_of_selects (args := #[]) (mvT hZ (hw _ (List.mem_of_getElem? (i := 32) rfl)))) (mvT hZ (hw _ (List.mem_of_getElem? (i := 32) rfl))) (mvT hZ (hw _ (List.mem_of_getElem? (i := 31) rfl))) (by decide) (backOf (W := 0) (rm6n l Z a0 hw [] b10 T11.heap n0 (Nat.le_trans (Nat.le_trans (Nat.le_trans (Nat.le_trans Z0 KQ8.1) KQ9.1) E10.1) KQ11.1) Fb11q) hZ (hw _ (List.mem_of_getElem? (i := 33) rfl)) (hw _ (List.mem_of_getElem? (i := 11) rfl)) (by decide) (by decide)) q12a q12c (g := (mkF m 97 #[.val (.int p1), .val (.int p2), .val (.int p3), .val (.int p4), .val (.int (fv1 (p4 &&& (3 : Int32)) (2 : Int32))), .val (.int (fv1 ((p4 >>> ((2 : Int32) &&& 31)) &&& (3 : Int32)) (2 : Int32))), .val (.int (fv1 ((p4 >>> ((4 : Int32) &&& 31)) &&& (3 : Int32)) (2 : Int32))), .val (.int (0 : Int32)), .val (.ref b8), .val (.ref b9), .val .null, .val (.ref b10), .unset, .unset] [(.ref b10)])) rfl (by rw [hml]; rfl) (Steps.refl _) (argsL := []) (rest := []) (lenOf pd_0_4 rfl) rfl (by show 2 * 0 + _ ≤ _; exact Nat.le_of_eq rfl) (hb hby at_97) (fun _ _ => ⟨rfl, rfl, (by decide : 3 + 0 ≤ _), (by decide : 7 + 0 ≤ _)⟩)
  dsimp only [Pt.U, Pt.locs, Pt.cells, Pt.slots] at X12 l12 y12 z12 st12 hQ12
  subst l12 y12 z12
  obtain ⟨rfl, N12q, eh12⟩ := hQ12
  have N12 := Fr.app N11 N12q
  -- pc 111: com/example/courteous_crawler/courteouscrawler/core/WireCopy.framedBody by the contract of the body that the receiver's class selects, rm7
  obtain ⟨cq13, kq13, q13a, q13b, q13c⟩ := isOf hZ eh12 E11q
  obtain ⟨_, _, ⟨T13, L13, k13, n13⟩, -, X13, ⟨Lc13, hQ13, l13, y13, z13⟩, st13⟩ := X12.virtualBack hx (y := (⟨"com/example/courteous_crawler/courteouscrawler/core/WireCopy", "framedBody", "()[B"⟩ : MethodName)) (z := (⟨"com/example/courteous_crawler/courteouscrawler/core/WireCopy", "framedBody", "()[B"⟩ : MethodName)) hown (mvT hZ (hw _ (List.mem_of_getElem? (i := 34) rfl))) (mvT hZ (hw _ (List.mem_of_getElem? (i := 35) rfl))) (notFace_of_selects (args := #[]) (mvT hZ (hw _ (List.mem_of_getElem? (i := 37) rfl)))) (mvT hZ (hw _ (List.mem_of_getElem? (i := 37) rfl))) (mvT hZ (hw _ (List.mem_of_getElem? (i := 36) rfl))) (by decide) (backOf (W := 0) (rm7n l Z a0 hw [] b10 T11.heap n0 (Nat.le_trans (Nat.le_trans (Nat.le_trans (Nat.le_trans Z0 KQ8.1) KQ9.1) E10.1) KQ11.1) Fb11q) hZ (hw _ (List.mem_of_getElem? (i := 38) rfl)) (hw _ (List.mem_of_getElem? (i := 11) rfl)) (by decide) (by decide)) q13a q13c (g := (mkF m 111 #[.val (.int p1), .val (.int p2), .val (.int p3), .val (.int p4), .val (.int (fv1 (p4 &&& (3 : Int32)) (2 : Int32))), .val (.int (fv1 ((p4 >>> ((2 : Int32) &&& 31)) &&& (3 : Int32)) (2 : Int32))), .val (.int (fv1 ((p4 >>> ((4 : Int32) &&& 31)) &&& (3 : Int32)) (2 : Int32))), .val (.int (0 : Int32)), .val (.ref b8), .val (.ref b9), .val .null, .val (.ref b10), .val (.ref b10), .unset] [(.ref b10)])) rfl (by rw [hml]; rfl) (Steps.refl _) (argsL := []) (rest := []) (lenOf pd_0_5 rfl) rfl (by show 2 * 0 + _ ≤ _; exact Nat.le_of_eq rfl) (hb hby at_111) (fun _ _ => ⟨rfl, eh12, (by decide : 3 + 0 ≤ _), (by decide : 7 + 0 ≤ _)⟩)
  dsimp only [Pt.U, Pt.locs, Pt.cells, Pt.slots] at X13 l13 y13 z13 st13 hQ13
  subst l13 y13 z13
  obtain ⟨rfl, N13q, eh13⟩ := hQ13
  have N13 := Fr.app N12 N13q
  -- pc 119: com/example/courteous_crawler/courteouscrawler/core/WireCopy.request by the contract of the body that the receiver's class selects, rm8
  obtain ⟨cq14, kq14, q14a, q14b, q14c⟩ := isOf hZ eh13 E11q
  obtain ⟨_, _, ⟨T14, L14, k14, n14⟩, -, X14, ⟨Lc14, hQ14, l14, y14, z14⟩, st14⟩ := X13.virtualBack hx (y := (⟨"com/example/courteous_crawler/courteouscrawler/core/WireCopy", "request", "()[B"⟩ : MethodName)) (z := (⟨"com/example/courteous_crawler/courteouscrawler/core/WireCopy", "request", "()[B"⟩ : MethodName)) hown (mvT hZ (hw _ (List.mem_of_getElem? (i := 39) rfl))) (mvT hZ (hw _ (List.mem_of_getElem? (i := 40) rfl))) (notFace_of_selects (args := #[]) (mvT hZ (hw _ (List.mem_of_getElem? (i := 42) rfl)))) (mvT hZ (hw _ (List.mem_of_getElem? (i := 42) rfl))) (mvT hZ (hw _ (List.mem_of_getElem? (i := 41) rfl))) (by decide) (backOf (W := 0) (rm8 l Z a0 hw [] b10 b8 T11.heap n0 (Nat.le_trans (Nat.le_trans (Nat.le_trans (Nat.le_trans Z0 KQ8.1) KQ9.1) E10.1) KQ11.1) Fr11q) hZ (hw _ (List.mem_of_getElem? (i := 43) rfl)) (hw _ (List.mem_of_getElem? (i := 11) rfl)) (by decide) (by decide)) q14a q14c (g := (mkF m 119 #[.val (.int p1), .val (.int p2), .val (.int p3), .val (.int p4), .val (.int (fv1 (p4 &&& (3 : Int32)) (2 : Int32))), .val (.int (fv1 ((p4 >>> ((2 : Int32) &&& 31)) &&& (3 : Int32)) (2 : Int32))), .val (.int (fv1 ((p4 >>> ((4 : Int32) &&& 31)) &&& (3 : Int32)) (2 : Int32))), .val (.int (0 : Int32)), .val (.ref b8), .val (.ref b9), .val .null, .val (.ref b10), .val (.ref b10), .unset] [(.ref b10)])) rfl (by rw [hml]; rfl) (Steps.refl _) (argsL := []) (rest := []) (lenOf pd_0_5 rfl) rfl (by show 2 * 0 + _ ≤ _; exact Nat.le_of_eq rfl) (hb hby at_119) (fun _ _ => ⟨rfl, eh13, (by decide : 3 + 0 ≤ _), (by decide : 7 + 0 ≤ _)⟩)
  dsimp only [Pt.U, Pt.locs, Pt.cells, Pt.slots] at X14 l14 y14 z14 st14 hQ14
  subst l14 y14 z14
  obtain ⟨rfl, N14q, eh14⟩ := hQ14
  have N14 := Fr.app N13 N14q
  -- pc 125: com/example/courteous_crawler/courteouscrawler/core/WireCopyWithoutBodyPinLaw.same by its contract rm9
  obtain ⟨_, _, ⟨T15, L15, k15, n15⟩, -, X15, ⟨Lc15, hQ15, l15, y15, z15⟩, st15⟩ := Jvm.LawKit.callS X14 hx (y := (⟨"com/example/courteous_crawler/courteouscrawler/core/WireCopyWithoutBodyPinLaw", "same", "([BII)Z"⟩ : MethodName)) hown (mvT hZ (hw _ (List.mem_of_getElem? (i := 44) rfl))) (mvT hZ (hw _ (List.mem_of_getElem? (i := 45) rfl))) (mvT hZ (hw _ (List.mem_of_getElem? (i := 6) rfl))) (mvT hZ (hw _ (List.mem_of_getElem? (i := 46) rfl))) (by decide) (backOf (W := 0) (rm9 l Z a0 hw [] b8 p1 (fv1 (p4 &&& (3 : Int32)) (2 : Int32)) T11.heap n0 (Nat.le_trans (Nat.le_trans (Nat.le_trans (Nat.le_trans Z0 KQ8.1) KQ9.1) E10.1) KQ11.1) (((M_b8.keep KQ9 nin0).ext E10).keep KQ11 (ninS (Nat.ne_of_lt (Nat.lt_of_lt_of_le (M_b8.keep KQ9 nin0).lt (Nat.le_of_eq g10.symm))) nin0)) (own_len _)) hZ (hw _ (List.mem_of_getElem? (i := 46) rfl)) (hw _ (List.mem_of_getElem? (i := 6) rfl)) (by decide) (by decide)) (g := (mkF m 125 #[.val (.int p1), .val (.int p2), .val (.int p3), .val (.int p4), .val (.int (fv1 (p4 &&& (3 : Int32)) (2 : Int32))), .val (.int (fv1 ((p4 >>> ((2 : Int32) &&& 31)) &&& (3 : Int32)) (2 : Int32))), .val (.int (fv1 ((p4 >>> ((4 : Int32) &&& 31)) &&& (3 : Int32)) (2 : Int32))), .val (.int (0 : Int32)), .val (.ref b8), .val (.ref b9), .val .null, .val (.ref b10), .val (.ref b10), .unset] [(.int (fv1 (p4 &&& (3 : Int32)) (2 : Int32))), (.int p1), (.ref b8)])) rfl (by rw [hml]; rfl) (argsL := [(.ref b8), (.int p1), (.int (fv1 (p4 &&& (3 : Int32)) (2 : Int32)))]) (rest := []) (lenOf pd_0_6 rfl) rfl (by show 2 * 0 + _ ≤ _; exact Nat.le_of_eq rfl) (hb hby at_125) (fun _ _ => ⟨rfl, eh14, (by decide : 3 + 0 ≤ _), (by decide : 7 + 0 ≤ _)⟩)
  dsimp only [Pt.U, Pt.locs, Pt.cells, Pt.slots] at X15 l15 y15 z15 st15 hQ15
  subst l15 y15 z15
  obtain ⟨rfl, N15q, eh15⟩ := hQ15
  have N15 := Fr.app N14 N15q
  -- pc 133: com/example/courteous_crawler/courteouscrawler/core/WireCopy.head by the contract of the body that the receiver's class selects, rm10
  obtain ⟨cq16, kq16, q16a, q16b, q16c⟩ := isOf hZ eh15 E11q
  obtain ⟨_, _, ⟨T16, L16, k16, n16⟩, -, X16, ⟨Lc16, hQ16, l16, y16, z16⟩, st16⟩ := X15.virtualBack hx (y := (⟨"com/example/courteous_crawler/courteouscrawler/core/WireCopy", "head", "()[B"⟩ : MethodName)) (z := (⟨"com/example/courteous_crawler/courteouscrawler/core/WireCopy", "head", "()[B"⟩ : MethodName)) hown (mvT hZ (hw _ (List.mem_of_getElem? (i := 47) rfl))) (mvT hZ (hw _ (List.mem_of_getElem? (i := 48) rfl))) (notFace_of_selects (args := #[]) (mvT hZ (hw _ (List.mem_of_getElem? (i := 50) rfl)))) (mvT hZ (hw _ (List.mem_of_getElem? (i := 50) rfl))) (mvT hZ (hw _ (List.mem_of_getElem? (i := 49) rfl))) (by decide) (backOf (W := 0) (rm10 l Z a0 hw [] b10 b9 T11.heap n0 (Nat.le_trans (Nat.le_trans (Nat.le_trans (Nat.le_trans Z0 KQ8.1) KQ9.1) E10.1) KQ11.1) Fh11q) hZ (hw _ (List.mem_of_getElem? (i := 51) rfl)) (hw _ (List.mem_of_getElem? (i := 11) rfl)) (by decide) (by decide)) q16a q16c (g := (mkF m 133 #[.val (.int p1), .val (.int p2), .val (.int p3), .val (.int p4), .val (.int (fv1 (p4 &&& (3 : Int32)) (2 : Int32))), .val (.int (fv1 ((p4 >>> ((2 : Int32) &&& 31)) &&& (3 : Int32)) (2 : Int32))), .val (.int (fv1 ((p4 >>> ((4 : Int32) &&& 31)) &&& (3 : Int32)) (2 : Int32))), .val (.int (0 : Int32)), .val (.ref b8), .val (.ref b9), .val .null, .val (.ref b10), .val (.ref b10), .unset] [(.ref b10)])) rfl (by rw [hml]; rfl) (Steps.refl _) (argsL := []) (rest := []) (lenOf pd_0_5 rfl) rfl (by show 2 * 0 + _ ≤ _; exact Nat.le_of_eq rfl) (hb hby at_133) (fun _ _ => ⟨rfl, eh15, (by decide : 3 + 0 ≤ _), (by decide : 7 + 0 ≤ _)⟩)
  dsimp only [Pt.U, Pt.locs, Pt.cells, Pt.slots] at X16 l16 y16 z16 st16 hQ16
  subst l16 y16 z16
  obtain ⟨rfl, N16q, eh16⟩ := hQ16
  have N16 := Fr.app N15 N16q
  -- pc 139: com/example/courteous_crawler/courteouscrawler/core/WireCopyWithoutBodyPinLaw.same by its contract rm9
  obtain ⟨_, _, ⟨T17, L17, k17, n17⟩, -, X17, ⟨Lc17, hQ17, l17, y17, z17⟩, st17⟩ := Jvm.LawKit.callS X16 hx (y := (⟨"com/example/courteous_crawler/courteouscrawler/core/WireCopyWithoutBodyPinLaw", "same", "([BII)Z"⟩ : MethodName)) hown (mvT hZ (hw _ (List.mem_of_getElem? (i := 44) rfl))) (mvT hZ (hw _ (List.mem_of_getElem? (i := 45) rfl))) (mvT hZ (hw _ (List.mem_of_getElem? (i := 6) rfl))) (mvT hZ (hw _ (List.mem_of_getElem? (i := 46) rfl))) (by decide) (backOf (W := 0) (rm9 l Z a0 hw [] b9 p2 (fv1 ((p4 >>> ((2 : Int32) &&& 31)) &&& (3 : Int32)) (2 : Int32)) T11.heap n0 (Nat.le_trans (Nat.le_trans (Nat.le_trans (Nat.le_trans Z0 KQ8.1) KQ9.1) E10.1) KQ11.1) ((M_b9.ext E10).keep KQ11 (ninS (Nat.ne_of_lt (Nat.lt_of_lt_of_le M_b9.lt (Nat.le_of_eq g10.symm))) nin0)) (own_len _)) hZ (hw _ (List.mem_of_getElem? (i := 46) rfl)) (hw _ (List.mem_of_getElem? (i := 6) rfl)) (by decide) (by decide)) (g := (mkF m 139 #[.val (.int p1), .val (.int p2), .val (.int p3), .val (.int p4), .val (.int (fv1 (p4 &&& (3 : Int32)) (2 : Int32))), .val (.int (fv1 ((p4 >>> ((2 : Int32) &&& 31)) &&& (3 : Int32)) (2 : Int32))), .val (.int (fv1 ((p4 >>> ((4 : Int32) &&& 31)) &&& (3 : Int32)) (2 : Int32))), .val (.int (0 : Int32)), .val (.ref b8), .val (.ref b9), .val .null, .val (.ref b10), .val (.ref b10), .unset] [(.int (fv1 ((p4 >>> ((2 : Int32) &&& 31)) &&& (3 : Int32)) (2 : Int32))), (.int p2), (.ref b9)])) rfl (by rw [hml]; rfl) (argsL := [(.ref b9), (.int p2), (.int (fv1 ((p4 >>> ((2 : Int32) &&& 31)) &&& (3 : Int32)) (2 : Int32)))]) (rest := []) (lenOf pd_0_6 rfl) rfl (by show 2 * 0 + _ ≤ _; exact Nat.le_of_eq rfl) (hb hby at_139) (fun _ _ => ⟨rfl, eh16, (by decide : 3 + 0 ≤ _), (by decide : 7 + 0 ≤ _)⟩)
  dsimp only [Pt.U, Pt.locs, Pt.cells, Pt.slots] at X17 l17 y17 z17 st17 hQ17
  subst l17 y17 z17
  obtain ⟨rfl, N17q, eh17⟩ := hQ17
  have N17 := Fr.app N16 N17q
  -- pc 159: com/example/courteous_crawler/courteouscrawler/core/WireCopy.framedBody by the contract of the body that the receiver's class selects, rm7
  obtain ⟨cq18, kq18, q18a, q18b, q18c⟩ := isOf hZ eh17 E11q
  obtain ⟨_, _, ⟨T18, L18, k18, n18⟩, -, X18, ⟨Lc18, hQ18, l18, y18, z18⟩, st18⟩ := X17.virtualBack hx (y := (⟨"com/example/courteous_crawler/courteouscrawler/core/WireCopy", "framedBody", "()[B"⟩ : MethodName)) (z := (⟨"com/example/courteous_crawler/courteouscrawler/core/WireCopy", "framedBody", "()[B"⟩ : MethodName)) hown (mvT hZ (hw _ (List.mem_of_getElem? (i := 34) rfl))) (mvT hZ (hw _ (List.mem_of_getElem? (i := 35) rfl))) (notFace_of_selects (args := #[]) (mvT hZ (hw _ (List.mem_of_getElem? (i := 37) rfl)))) (mvT hZ (hw _ (List.mem_of_getElem? (i := 37) rfl))) (mvT hZ (hw _ (List.mem_of_getElem? (i := 36) rfl))) (by decide) (backOf (W := 0) (rm7n l Z a0 hw [] b10 T11.heap n0 (Nat.le_trans (Nat.le_trans (Nat.le_trans (Nat.le_trans Z0 KQ8.1) KQ9.1) E10.1) KQ11.1) Fb11q) hZ (hw _ (List.mem_of_getElem? (i := 38) rfl)) (hw _ (List.mem_of_getElem? (i := 11) rfl)) (by decide) (by decide)) q18a q18c (g := (mkF m 159 #[.val (.int p1), .val (.int p2), .val (.int p3), .val (.int p4), .val (.int (fv1 (p4 &&& (3 : Int32)) (2 : Int32))), .val (.int (fv1 ((p4 >>> ((2 : Int32) &&& 31)) &&& (3 : Int32)) (2 : Int32))), .val (.int (fv1 ((p4 >>> ((4 : Int32) &&& 31)) &&& (3 : Int32)) (2 : Int32))), .val (.int (0 : Int32)), .val (.ref b8), .val (.ref b9), .val .null, .val (.ref b10), .val (.ref b10), .val (.int (1 : Int32))] [(.ref b10)])) rfl (by rw [hml]; rfl) (Steps.refl _) (argsL := []) (rest := []) (lenOf pd_0_5 rfl) rfl (by show 2 * 0 + _ ≤ _; exact Nat.le_of_eq rfl) (hb hby at_159) (fun _ _ => ⟨rfl, eh17, (by decide : 3 + 0 ≤ _), (by decide : 7 + 0 ≤ _)⟩)
  dsimp only [Pt.U, Pt.locs, Pt.cells, Pt.slots] at X18 l18 y18 z18 st18 hQ18
  subst l18 y18 z18
  obtain ⟨rfl, N18q, eh18⟩ := hQ18
  have N18 := Fr.app N17 N18q
  -- pc 169: com/example/courteous_crawler/courteouscrawler/core/WireCopy.request by the contract of the body that the receiver's class selects, rm8
  obtain ⟨cq19, kq19, q19a, q19b, q19c⟩ := isOf hZ eh18 E11q
  obtain ⟨_, _, ⟨T19, L19, k19, n19⟩, -, X19, ⟨Lc19, hQ19, l19, y19, z19⟩, st19⟩ := X18.virtualBack hx (y := (⟨"com/example/courteous_crawler/courteouscrawler/core/WireCopy", "request", "()[B"⟩ : MethodName)) (z := (⟨"com/example/courteous_crawler/courteouscrawler/core/WireCopy", "request", "()[B"⟩ : MethodName)) hown (mvT hZ (hw _ (List.mem_of_getElem? (i := 39) rfl))) (mvT hZ (hw _ (List.mem_of_getElem? (i := 40) rfl))) (notFace_of_selects (args := #[]) (mvT hZ (hw _ (List.mem_of_getElem? (i := 42) rfl)))) (mvT hZ (hw _ (List.mem_of_getElem? (i := 42) rfl))) (mvT hZ (hw _ (List.mem_of_getElem? (i := 41) rfl))) (by decide) (backOf (W := 0) (rm8 l Z a0 hw [] b10 b8 T11.heap n0 (Nat.le_trans (Nat.le_trans (Nat.le_trans (Nat.le_trans Z0 KQ8.1) KQ9.1) E10.1) KQ11.1) Fr11q) hZ (hw _ (List.mem_of_getElem? (i := 43) rfl)) (hw _ (List.mem_of_getElem? (i := 11) rfl)) (by decide) (by decide)) q19a q19c (g := (mkF m 169 #[.val (.int p1), .val (.int p2), .val (.int p3), .val (.int p4), .val (.int (fv1 (p4 &&& (3 : Int32)) (2 : Int32))), .val (.int (fv1 ((p4 >>> ((2 : Int32) &&& 31)) &&& (3 : Int32)) (2 : Int32))), .val (.int (fv1 ((p4 >>> ((4 : Int32) &&& 31)) &&& (3 : Int32)) (2 : Int32))), .val (.int (0 : Int32)), .val (.ref b8), .val (.ref b9), .val .null, .val (.ref b10), .val (.ref b10), .val (.int (1 : Int32))] [(.ref b10)])) rfl (by rw [hml]; rfl) (Steps.refl _) (argsL := []) (rest := []) (lenOf pd_0_5 rfl) rfl (by show 2 * 0 + _ ≤ _; exact Nat.le_of_eq rfl) (hb hby at_169) (fun _ _ => ⟨rfl, eh18, (by decide : 3 + 0 ≤ _), (by decide : 7 + 0 ≤ _)⟩)
  dsimp only [Pt.U, Pt.locs, Pt.cells, Pt.slots] at X19 l19 y19 z19 st19 hQ19
  subst l19 y19 z19
  obtain ⟨rfl, N19q, eh19⟩ := hQ19
  have N19 := Fr.app N18 N19q
  -- pc 175: com/example/courteous_crawler/courteouscrawler/core/WireCopyWithoutBodyPinLaw.same by its contract rm9
  obtain ⟨_, _, ⟨T20, L20, k20, n20⟩, -, X20, ⟨Lc20, hQ20, l20, y20, z20⟩, st20⟩ := Jvm.LawKit.callS X19 hx (y := (⟨"com/example/courteous_crawler/courteouscrawler/core/WireCopyWithoutBodyPinLaw", "same", "([BII)Z"⟩ : MethodName)) hown (mvT hZ (hw _ (List.mem_of_getElem? (i := 44) rfl))) (mvT hZ (hw _ (List.mem_of_getElem? (i := 45) rfl))) (mvT hZ (hw _ (List.mem_of_getElem? (i := 6) rfl))) (mvT hZ (hw _ (List.mem_of_getElem? (i := 46) rfl))) (by decide) (backOf (W := 0) (rm9 l Z a0 hw [] b8 p1 (fv1 (p4 &&& (3 : Int32)) (2 : Int32)) T11.heap n0 (Nat.le_trans (Nat.le_trans (Nat.le_trans (Nat.le_trans Z0 KQ8.1) KQ9.1) E10.1) KQ11.1) (((M_b8.keep KQ9 nin0).ext E10).keep KQ11 (ninS (Nat.ne_of_lt (Nat.lt_of_lt_of_le (M_b8.keep KQ9 nin0).lt (Nat.le_of_eq g10.symm))) nin0)) (own_len _)) hZ (hw _ (List.mem_of_getElem? (i := 46) rfl)) (hw _ (List.mem_of_getElem? (i := 6) rfl)) (by decide) (by decide)) (g := (mkF m 175 #[.val (.int p1), .val (.int p2), .val (.int p3), .val (.int p4), .val (.int (fv1 (p4 &&& (3 : Int32)) (2 : Int32))), .val (.int (fv1 ((p4 >>> ((2 : Int32) &&& 31)) &&& (3 : Int32)) (2 : Int32))), .val (.int (fv1 ((p4 >>> ((4 : Int32) &&& 31)) &&& (3 : Int32)) (2 : Int32))), .val (.int (0 : Int32)), .val (.ref b8), .val (.ref b9), .val .null, .val (.ref b10), .val (.ref b10), .val (.int (1 : Int32))] [(.int (fv1 (p4 &&& (3 : Int32)) (2 : Int32))), (.int p1), (.ref b8)])) rfl (by rw [hml]; rfl) (argsL := [(.ref b8), (.int p1), (.int (fv1 (p4 &&& (3 : Int32)) (2 : Int32)))]) (rest := []) (lenOf pd_0_6 rfl) rfl (by show 2 * 0 + _ ≤ _; exact Nat.le_of_eq rfl) (hb hby at_175) (fun _ _ => ⟨rfl, eh19, (by decide : 3 + 0 ≤ _), (by decide : 7 + 0 ≤ _)⟩)
  dsimp only [Pt.U, Pt.locs, Pt.cells, Pt.slots] at X20 l20 y20 z20 st20 hQ20
  subst l20 y20 z20
  obtain ⟨rfl, N20q, eh20⟩ := hQ20
  have N20 := Fr.app N19 N20q
  -- pc 183: com/example/courteous_crawler/courteouscrawler/core/WireCopy.head by the contract of the body that the receiver's class selects, rm10
  obtain ⟨cq21, kq21, q21a, q21b, q21c⟩ := isOf hZ eh20 E11q
  obtain ⟨_, _, ⟨T21, L21, k21, n21⟩, -, X21, ⟨Lc21, hQ21, l21, y21, z21⟩, st21⟩ := X20.virtualBack hx (y := (⟨"com/example/courteous_crawler/courteouscrawler/core/WireCopy", "head", "()[B"⟩ : MethodName)) (z := (⟨"com/example/courteous_crawler/courteouscrawler/core/WireCopy", "head", "()[B"⟩ : MethodName)) hown (mvT hZ (hw _ (List.mem_of_getElem? (i := 47) rfl))) (mvT hZ (hw _ (List.mem_of_getElem? (i := 48) rfl))) (notFace_of_selects (args := #[]) (mvT hZ (hw _ (List.mem_of_getElem? (i := 50) rfl)))) (mvT hZ (hw _ (List.mem_of_getElem? (i := 50) rfl))) (mvT hZ (hw _ (List.mem_of_getElem? (i := 49) rfl))) (by decide) (backOf (W := 0) (rm10 l Z a0 hw [] b10 b9 T11.heap n0 (Nat.le_trans (Nat.le_trans (Nat.le_trans (Nat.le_trans Z0 KQ8.1) KQ9.1) E10.1) KQ11.1) Fh11q) hZ (hw _ (List.mem_of_getElem? (i := 51) rfl)) (hw _ (List.mem_of_getElem? (i := 11) rfl)) (by decide) (by decide)) q21a q21c (g := (mkF m 183 #[.val (.int p1), .val (.int p2), .val (.int p3), .val (.int p4), .val (.int (fv1 (p4 &&& (3 : Int32)) (2 : Int32))), .val (.int (fv1 ((p4 >>> ((2 : Int32) &&& 31)) &&& (3 : Int32)) (2 : Int32))), .val (.int (fv1 ((p4 >>> ((4 : Int32) &&& 31)) &&& (3 : Int32)) (2 : Int32))), .val (.int (0 : Int32)), .val (.ref b8), .val (.ref b9), .val .null, .val (.ref b10), .val (.ref b10), .val (.int (1 : Int32))] [(.ref b10)])) rfl (by rw [hml]; rfl) (Steps.refl _) (argsL := []) (rest := []) (lenOf pd_0_5 rfl) rfl (by show 2 * 0 + _ ≤ _; exact Nat.le_of_eq rfl) (hb hby at_183) (fun _ _ => ⟨rfl, eh20, (by decide : 3 + 0 ≤ _), (by decide : 7 + 0 ≤ _)⟩)
  dsimp only [Pt.U, Pt.locs, Pt.cells, Pt.slots] at X21 l21 y21 z21 st21 hQ21
  subst l21 y21 z21
  obtain ⟨rfl, N21q, eh21⟩ := hQ21
  have N21 := Fr.app N20 N21q
  -- pc 189: com/example/courteous_crawler/courteouscrawler/core/WireCopyWithoutBodyPinLaw.same by its contract rm9
  obtain ⟨_, _, ⟨T22, L22, k22, n22⟩, -, X22, ⟨Lc22, hQ22, l22, y22, z22⟩, st22⟩ := Jvm.LawKit.callS X21 hx (y := (⟨"com/example/courteous_crawler/courteouscrawler/core/WireCopyWithoutBodyPinLaw", "same", "([BII)Z"⟩ : MethodName)) hown (mvT hZ (hw _ (List.mem_of_getElem? (i := 44) rfl))) (mvT hZ (hw _ (List.mem_of_getElem? (i := 45) rfl))) (mvT hZ (hw _ (List.mem_of_getElem? (i := 6) rfl))) (mvT hZ (hw _ (List.mem_of_getElem? (i := 46) rfl))) (by decide) (backOf (W := 0) (rm9 l Z a0 hw [] b9 p2 (fv1 ((p4 >>> ((2 : Int32) &&& 31)) &&& (3 : Int32)) (2 : Int32)) T11.heap n0 (Nat.le_trans (Nat.le_trans (Nat.le_trans (Nat.le_trans Z0 KQ8.1) KQ9.1) E10.1) KQ11.1) ((M_b9.ext E10).keep KQ11 (ninS (Nat.ne_of_lt (Nat.lt_of_lt_of_le M_b9.lt (Nat.le_of_eq g10.symm))) nin0)) (own_len _)) hZ (hw _ (List.mem_of_getElem? (i := 46) rfl)) (hw _ (List.mem_of_getElem? (i := 6) rfl)) (by decide) (by decide)) (g := (mkF m 189 #[.val (.int p1), .val (.int p2), .val (.int p3), .val (.int p4), .val (.int (fv1 (p4 &&& (3 : Int32)) (2 : Int32))), .val (.int (fv1 ((p4 >>> ((2 : Int32) &&& 31)) &&& (3 : Int32)) (2 : Int32))), .val (.int (fv1 ((p4 >>> ((4 : Int32) &&& 31)) &&& (3 : Int32)) (2 : Int32))), .val (.int (0 : Int32)), .val (.ref b8), .val (.ref b9), .val .null, .val (.ref b10), .val (.ref b10), .val (.int (1 : Int32))] [(.int (fv1 ((p4 >>> ((2 : Int32) &&& 31)) &&& (3 : Int32)) (2 : Int32))), (.int p2), (.ref b9)])) rfl (by rw [hml]; rfl) (argsL := [(.ref b9), (.int p2), (.int (fv1 ((p4 >>> ((2 : Int32) &&& 31)) &&& (3 : Int32)) (2 : Int32)))]) (rest := []) (lenOf pd_0_6 rfl) rfl (by show 2 * 0 + _ ≤ _; exact Nat.le_of_eq rfl) (hb hby at_189) (fun _ _ => ⟨rfl, eh21, (by decide : 3 + 0 ≤ _), (by decide : 7 + 0 ≤ _)⟩)
  dsimp only [Pt.U, Pt.locs, Pt.cells, Pt.slots] at X22 l22 y22 z22 st22 hQ22
  subst l22 y22 z22
  obtain ⟨rfl, N22q, eh22⟩ := hQ22
  have N22 := Fr.app N21 N22q
  obtain ⟨fs, hr, hrun, hended, hW, hsame⟩ := X22.leave (v := some (.int (1 : Int32))) (fun h => by rw [Bd.returns] at h; cases h)
  refine ⟨_, _, pre0 _ ?_, hrun, hended, _, _, rfl, ?_, ⟨_, rfl⟩, hW, hsame.mono (by decide) (by decide)⟩
  -- 4. STEPS
  · show Steps p.tables e below (s₁.setTop (mkF m 0 #[.val (.int p1), .val (.int p2), .val (.int p3), .val (.int p4), .unset, .unset, .unset, .unset, .unset, .unset, .unset, .unset, .unset, .unset] [])) _
    refine XS.iloadN X0.here hx rfl (hb hby at_0) rfl ?_
    show Steps p.tables e below (s₁.setTop (mkF m 1 #[.val (.int p1), .val (.int p2), .val (.int p3), .val (.int p4), .unset, .unset, .unset, .unset, .unset, .unset, .unset, .unset, .unset, .unset] [(.int p4)])) _
    refine XS.iconst X0.here hx rfl (hb hby at_1) ?_
    show Steps p.tables e below (s₁.setTop (mkF m 2 #[.val (.int p1), .val (.int p2), .val (.int p3), .val (.int p4), .unset, .unset, .unset, .unset, .unset, .unset, .unset, .unset, .unset, .unset] [(.int (3 : Int32)), (.int p4)])) _
    refine XS.iand X0.here hx rfl (hb hby at_2) rfl ?_
    show Steps p.tables e below (s₁.setTop (mkF m 3 #[.val (.int p1), .val (.int p2), .val (.int p3), .val (.int p4), .unset, .unset, .unset, .unset, .unset, .unset, .unset, .unset, .unset, .unset] [(.int (p4 &&& (3 : Int32)))])) _
    refine XS.iconst X0.here hx rfl (hb hby at_3) ?_
    show Steps p.tables e below (s₁.setTop (mkF m 4 #[.val (.int p1), .val (.int p2), .val (.int p3), .val (.int p4), .unset, .unset, .unset, .unset, .unset, .unset, .unset, .unset, .unset, .unset] [(.int (2 : Int32)), (.int (p4 &&& (3 : Int32)))])) _
    refine st5 _ ?_
    show Steps p.tables e below (T5.setTop (mkF m 7 #[.val (.int p1), .val (.int p2), .val (.int p3), .val (.int p4), .unset, .unset, .unset, .unset, .unset, .unset, .unset, .unset, .unset, .unset] [(.int (fv1 (p4 &&& (3 : Int32)) (2 : Int32)))])) _
    refine XS.istore X5.here hx rfl (hb hby at_7) rfl (l' := #[.val (.int p1), .val (.int p2), .val (.int p3), .val (.int p4), .val (.int (fv1 (p4 &&& (3 : Int32)) (2 : Int32))), .unset, .unset, .unset, .unset, .unset, .unset, .unset, .unset, .unset]) rfl ?_
    show Steps p.tables e below (T5.setTop (mkF m 9 #[.val (.int p1), .val (.int p2), .val (.int p3), .val (.int p4), .val (.int (fv1 (p4 &&& (3 : Int32)) (2 : Int32))), .unset, .unset, .unset, .unset, .unset, .unset, .unset, .unset, .unset] [])) _
    refine XS.iloadN X5.here hx rfl (hb hby at_9) rfl ?_
    show Steps p.tables e below (T5.setTop (mkF m 10 #[.val (.int p1), .val (.int p2), .val (.int p3), .val (.int p4), .val (.int (fv1 (p4 &&& (3 : Int32)) (2 : Int32))), .unset, .unset, .unset, .unset, .unset, .unset, .unset, .unset, .unset] [(.int p4)])) _
    refine XS.iconst X5.here hx rfl (hb hby at_10) ?_
    show Steps p.tables e below (T5.setTop (mkF m 11 #[.val (.int p1), .val (.int p2), .val (.int p3), .val (.int p4), .val (.int (fv1 (p4 &&& (3 : Int32)) (2 : Int32))), .unset, .unset, .unset, .unset, .unset, .unset, .unset, .unset, .unset] [(.int (2 : Int32)), (.int p4)])) _
    refine XS.ishr X5.here hx rfl (hb hby at_11) rfl ?_
    show Steps p.tables e below (T5.setTop (mkF m 12 #[.val (.int p1), .val (.int p2), .val (.int p3), .val (.int p4), .val (.int (fv1 (p4 &&& (3 : Int32)) (2 : Int32))), .unset, .unset, .unset, .unset, .unset, .unset, .unset, .unset, .unset] [(.int (p4 >>> ((2 : Int32) &&& 31)))])) _
    refine XS.iconst X5.here hx rfl (hb hby at_12) ?_
    show Steps p.tables e below (T5.setTop (mkF m 13 #[.val (.int p1), .val (.int p2), .val (.int p3), .val (.int p4), .val (.int (fv1 (p4 &&& (3 : Int32)) (2 : Int32))), .unset, .unset, .unset, .unset, .unset, .unset, .unset, .unset, .unset] [(.int (3 : Int32)), (.int (p4 >>> ((2 : Int32) &&& 31)))])) _
    refine XS.iand X5.here hx rfl (hb hby at_13) rfl ?_
    show Steps p.tables e below (T5.setTop (mkF m 14 #[.val (.int p1), .val (.int p2), .val (.int p3), .val (.int p4), .val (.int (fv1 (p4 &&& (3 : Int32)) (2 : Int32))), .unset, .unset, .unset, .unset, .unset, .unset, .unset, .unset, .unset] [(.int ((p4 >>> ((2 : Int32) &&& 31)) &&& (3 : Int32)))])) _
    refine XS.iconst X5.here hx rfl (hb hby at_14) ?_
    show Steps p.tables e below (T5.setTop (mkF m 15 #[.val (.int p1), .val (.int p2), .val (.int p3), .val (.int p4), .val (.int (fv1 (p4 &&& (3 : Int32)) (2 : Int32))), .unset, .unset, .unset, .unset, .unset, .unset, .unset, .unset, .unset] [(.int (2 : Int32)), (.int ((p4 >>> ((2 : Int32) &&& 31)) &&& (3 : Int32)))])) _
    refine st6 _ ?_
    show Steps p.tables e below (T6.setTop (mkF m 18 #[.val (.int p1), .val (.int p2), .val (.int p3), .val (.int p4), .val (.int (fv1 (p4 &&& (3 : Int32)) (2 : Int32))), .unset, .unset, .unset, .unset, .unset, .unset, .unset, .unset, .unset] [(.int (fv1 ((p4 >>> ((2 : Int32) &&& 31)) &&& (3 : Int32)) (2 : Int32)))])) _
    refine XS.istore X6.here hx rfl (hb hby at_18) rfl (l' := #[.val (.int p1), .val (.int p2), .val (.int p3), .val (.int p4), .val (.int (fv1 (p4 &&& (3 : Int32)) (2 : Int32))), .val (.int (fv1 ((p4 >>> ((2 : Int32) &&& 31)) &&& (3 : Int32)) (2 : Int32))), .unset, .unset, .unset, .unset, .unset, .unset, .unset, .unset]) rfl ?_
    show Steps p.tables e below (T6.setTop (mkF m 20 #[.val (.int p1), .val (.int p2), .val (.int p3), .val (.int p4), .val (.int (fv1 (p4 &&& (3 : Int32)) (2 : Int32))), .val (.int (fv1 ((p4 >>> ((2 : Int32) &&& 31)) &&& (3 : Int32)) (2 : Int32))), .unset, .unset, .unset, .unset, .unset, .unset, .unset, .unset] [])) _
    refine XS.iloadN X6.here hx rfl (hb hby at_20) rfl ?_
    show Steps p.tables e below (T6.setTop (mkF m 21 #[.val (.int p1), .val (.int p2), .val (.int p3), .val (.int p4), .val (.int (fv1 (p4 &&& (3 : Int32)) (2 : Int32))), .val (.int (fv1 ((p4 >>> ((2 : Int32) &&& 31)) &&& (3 : Int32)) (2 : Int32))), .unset, .unset, .unset, .unset, .unset, .unset, .unset, .unset] [(.int p4)])) _
    refine XS.iconst X6.here hx rfl (hb hby at_21) ?_
    show Steps p.tables e below (T6.setTop (mkF m 22 #[.val (.int p1), .val (.int p2), .val (.int p3), .val (.int p4), .val (.int (fv1 (p4 &&& (3 : Int32)) (2 : Int32))), .val (.int (fv1 ((p4 >>> ((2 : Int32) &&& 31)) &&& (3 : Int32)) (2 : Int32))), .unset, .unset, .unset, .unset, .unset, .unset, .unset, .unset] [(.int (4 : Int32)), (.int p4)])) _
    refine XS.ishr X6.here hx rfl (hb hby at_22) rfl ?_
    show Steps p.tables e below (T6.setTop (mkF m 23 #[.val (.int p1), .val (.int p2), .val (.int p3), .val (.int p4), .val (.int (fv1 (p4 &&& (3 : Int32)) (2 : Int32))), .val (.int (fv1 ((p4 >>> ((2 : Int32) &&& 31)) &&& (3 : Int32)) (2 : Int32))), .unset, .unset, .unset, .unset, .unset, .unset, .unset, .unset] [(.int (p4 >>> ((4 : Int32) &&& 31)))])) _
    refine XS.iconst X6.here hx rfl (hb hby at_23) ?_
    show Steps p.tables e below (T6.setTop (mkF m 24 #[.val (.int p1), .val (.int p2), .val (.int p3), .val (.int p4), .val (.int (fv1 (p4 &&& (3 : Int32)) (2 : Int32))), .val (.int (fv1 ((p4 >>> ((2 : Int32) &&& 31)) &&& (3 : Int32)) (2 : Int32))), .unset, .unset, .unset, .unset, .unset, .unset, .unset, .unset] [(.int (3 : Int32)), (.int (p4 >>> ((4 : Int32) &&& 31)))])) _
    refine XS.iand X6.here hx rfl (hb hby at_24) rfl ?_
    show Steps p.tables e below (T6.setTop (mkF m 25 #[.val (.int p1), .val (.int p2), .val (.int p3), .val (.int p4), .val (.int (fv1 (p4 &&& (3 : Int32)) (2 : Int32))), .val (.int (fv1 ((p4 >>> ((2 : Int32) &&& 31)) &&& (3 : Int32)) (2 : Int32))), .unset, .unset, .unset, .unset, .unset, .unset, .unset, .unset] [(.int ((p4 >>> ((4 : Int32) &&& 31)) &&& (3 : Int32)))])) _
    refine XS.iconst X6.here hx rfl (hb hby at_25) ?_
    show Steps p.tables e below (T6.setTop (mkF m 26 #[.val (.int p1), .val (.int p2), .val (.int p3), .val (.int p4), .val (.int (fv1 (p4 &&& (3 : Int32)) (2 : Int32))), .val (.int (fv1 ((p4 >>> ((2 : Int32) &&& 31)) &&& (3 : Int32)) (2 : Int32))), .unset, .unset, .unset, .unset, .unset, .unset, .unset, .unset] [(.int (2 : Int32)), (.int ((p4 >>> ((4 : Int32) &&& 31)) &&& (3 : Int32)))])) _
    refine st7 _ ?_
    show Steps p.tables e below (T7.setTop (mkF m 29 #[.val (.int p1), .val (.int p2), .val (.int p3), .val (.int p4), .val (.int (fv1 (p4 &&& (3 : Int32)) (2 : Int32))), .val (.int (fv1 ((p4 >>> ((2 : Int32) &&& 31)) &&& (3 : Int32)) (2 : Int32))), .unset, .unset, .unset, .unset, .unset, .unset, .unset, .unset] [(.int (fv1 ((p4 >>> ((4 : Int32) &&& 31)) &&& (3 : Int32)) (2 : Int32)))])) _
    refine XS.istore X7.here hx rfl (hb hby at_29) rfl (l' := #[.val (.int p1), .val (.int p2), .val (.int p3), .val (.int p4), .val (.int (fv1 (p4 &&& (3 : Int32)) (2 : Int32))), .val (.int (fv1 ((p4 >>> ((2 : Int32) &&& 31)) &&& (3 : Int32)) (2 : Int32))), .val (.int (fv1 ((p4 >>> ((4 : Int32) &&& 31)) &&& (3 : Int32)) (2 : Int32))), .unset, .unset, .unset, .unset, .unset, .unset, .unset]) rfl ?_
    show Steps p.tables e below (T7.setTop (mkF m 31 #[.val (.int p1), .val (.int p2), .val (.int p3), .val (.int p4), .val (.int (fv1 (p4 &&& (3 : Int32)) (2 : Int32))), .val (.int (fv1 ((p4 >>> ((2 : Int32) &&& 31)) &&& (3 : Int32)) (2 : Int32))), .val (.int (fv1 ((p4 >>> ((4 : Int32) &&& 31)) &&& (3 : Int32)) (2 : Int32))), .unset, .unset, .unset, .unset, .unset, .unset, .unset] [])) _
    refine XS.iloadN X7.here hx rfl (hb hby at_31) rfl ?_
    show Steps p.tables e below (T7.setTop (mkF m 32 #[.val (.int p1), .val (.int p2), .val (.int p3), .val (.int p4), .val (.int (fv1 (p4 &&& (3 : Int32)) (2 : Int32))), .val (.int (fv1 ((p4 >>> ((2 : Int32) &&& 31)) &&& (3 : Int32)) (2 : Int32))), .val (.int (fv1 ((p4 >>> ((4 : Int32) &&& 31)) &&& (3 : Int32)) (2 : Int32))), .unset, .unset, .unset, .unset, .unset, .unset, .unset] [(.int p4)])) _
    refine XS.bipush X7.here hx rfl (hb hby at_32) ?_
    show Steps p.tables e below (T7.setTop (mkF m 34 #[.val (.int p1), .val (.int p2), .val (.int p3), .val (.int p4), .val (.int (fv1 (p4 &&& (3 : Int32)) (2 : Int32))), .val (.int (fv1 ((p4 >>> ((2 : Int32) &&& 31)) &&& (3 : Int32)) (2 : Int32))), .val (.int (fv1 ((p4 >>> ((4 : Int32) &&& 31)) &&& (3 : Int32)) (2 : Int32))), .unset, .unset, .unset, .unset, .unset, .unset, .unset] [(.int (6 : Int32)), (.int p4)])) _
    refine XS.ishr X7.here hx rfl (hb hby at_34) rfl ?_
    show Steps p.tables e below (T7.setTop (mkF m 35 #[.val (.int p1), .val (.int p2), .val (.int p3), .val (.int p4), .val (.int (fv1 (p4 &&& (3 : Int32)) (2 : Int32))), .val (.int (fv1 ((p4 >>> ((2 : Int32) &&& 31)) &&& (3 : Int32)) (2 : Int32))), .val (.int (fv1 ((p4 >>> ((4 : Int32) &&& 31)) &&& (3 : Int32)) (2 : Int32))), .unset, .unset, .unset, .unset, .unset, .unset, .unset] [(.int (p4 >>> ((6 : Int32) &&& 31)))])) _
    refine XS.iconst X7.here hx rfl (hb hby at_35) ?_
    show Steps p.tables e below (T7.setTop (mkF m 36 #[.val (.int p1), .val (.int p2), .val (.int p3), .val (.int p4), .val (.int (fv1 (p4 &&& (3 : Int32)) (2 : Int32))), .val (.int (fv1 ((p4 >>> ((2 : Int32) &&& 31)) &&& (3 : Int32)) (2 : Int32))), .val (.int (fv1 ((p4 >>> ((4 : Int32) &&& 31)) &&& (3 : Int32)) (2 : Int32))), .unset, .unset, .unset, .unset, .unset, .unset, .unset] [(.int (1 : Int32)), (.int (p4 >>> ((6 : Int32) &&& 31)))])) _
    refine XS.iand X7.here hx rfl (hb hby at_36) rfl ?_
    show Steps p.tables e below (T7.setTop (mkF m 37 #[.val (.int p1), .val (.int p2), .val (.int p3), .val (.int p4), .val (.int (fv1 (p4 &&& (3 : Int32)) (2 : Int32))), .val (.int (fv1 ((p4 >>> ((2 : Int32) &&& 31)) &&& (3 : Int32)) (2 : Int32))), .val (.int (fv1 ((p4 >>> ((4 : Int32) &&& 31)) &&& (3 : Int32)) (2 : Int32))), .unset, .unset, .unset, .unset, .unset, .unset, .unset] [(.int ((p4 >>> ((6 : Int32) &&& 31)) &&& (1 : Int32)))])) _
    refine XS.ifYes X7.here hx rfl (pc0 := 37) (pc' := 44) rfl (hb hby at_37) rfl ((if0 _ _).trans (teq hc37).1) (by decide) (by decide) ?_
    show Steps p.tables e below (T7.setTop (mkF m 44 #[.val (.int p1), .val (.int p2), .val (.int p3), .val (.int p4), .val (.int (fv1 (p4 &&& (3 : Int32)) (2 : Int32))), .val (.int (fv1 ((p4 >>> ((2 : Int32) &&& 31)) &&& (3 : Int32)) (2 : Int32))), .val (.int (fv1 ((p4 >>> ((4 : Int32) &&& 31)) &&& (3 : Int32)) (2 : Int32))), .unset, .unset, .unset, .unset, .unset, .unset, .unset] [])) _
    refine XS.iconst X7.here hx rfl (hb hby at_44) ?_
    show Steps p.tables e below (T7.setTop (mkF m 45 #[.val (.int p1), .val (.int p2), .val (.int p3), .val (.int p4), .val (.int (fv1 (p4 &&& (3 : Int32)) (2 : Int32))), .val (.int (fv1 ((p4 >>> ((2 : Int32) &&& 31)) &&& (3 : Int32)) (2 : Int32))), .val (.int (fv1 ((p4 >>> ((4 : Int32) &&& 31)) &&& (3 : Int32)) (2 : Int32))), .unset, .unset, .unset, .unset, .unset, .unset, .unset] [(.int (0 : Int32))])) _
    refine XS.istore X7.here hx rfl (hb hby at_45) rfl (l' := #[.val (.int p1), .val (.int p2), .val (.int p3), .val (.int p4), .val (.int (fv1 (p4 &&& (3 : Int32)) (2 : Int32))), .val (.int (fv1 ((p4 >>> ((2 : Int32) &&& 31)) &&& (3 : Int32)) (2 : Int32))), .val (.int (fv1 ((p4 >>> ((4 : Int32) &&& 31)) &&& (3 : Int32)) (2 : Int32))), .val (.int (0 : Int32)), .unset, .unset, .unset, .unset, .unset, .unset]) rfl ?_
    show Steps p.tables e below (T7.setTop (mkF m 47 #[.val (.int p1), .val (.int p2), .val (.int p3), .val (.int p4), .val (.int (fv1 (p4 &&& (3 : Int32)) (2 : Int32))), .val (.int (fv1 ((p4 >>> ((2 : Int32) &&& 31)) &&& (3 : Int32)) (2 : Int32))), .val (.int (fv1 ((p4 >>> ((4 : Int32) &&& 31)) &&& (3 : Int32)) (2 : Int32))), .val (.int (0 : Int32)), .unset, .unset, .unset, .unset, .unset, .unset] [])) _
    refine XS.iloadN X7.here hx rfl (hb hby at_47) rfl ?_
    show Steps p.tables e below (T7.setTop (mkF m 48 #[.val (.int p1), .val (.int p2), .val (.int p3), .val (.int p4), .val (.int (fv1 (p4 &&& (3 : Int32)) (2 : Int32))), .val (.int (fv1 ((p4 >>> ((2 : Int32) &&& 31)) &&& (3 : Int32)) (2 : Int32))), .val (.int (fv1 ((p4 >>> ((4 : Int32) &&& 31)) &&& (3 : Int32)) (2 : Int32))), .val (.int (0 : Int32)), .unset, .unset, .unset, .unset, .unset, .unset] [(.int p1)])) _
    refine XS.iload X7.here hx rfl (hb hby at_48) rfl ?_
    show Steps p.tables e below (T7.setTop (mkF m 50 #[.val (.int p1), .val (.int p2), .val (.int p3), .val (.int p4), .val (.int (fv1 (p4 &&& (3 : Int32)) (2 : Int32))), .val (.int (fv1 ((p4 >>> ((2 : Int32) &&& 31)) &&& (3 : Int32)) (2 : Int32))), .val (.int (fv1 ((p4 >>> ((4 : Int32) &&& 31)) &&& (3 : Int32)) (2 : Int32))), .val (.int (0 : Int32)), .unset, .unset, .unset, .unset, .unset, .unset] [(.int (fv1 (p4 &&& (3 : Int32)) (2 : Int32))), (.int p1)])) _
    refine st8 _ ?_
    show Steps p.tables e below (T8.setTop (mkF m 53 #[.val (.int p1), .val (.int p2), .val (.int p3), .val (.int p4), .val (.int (fv1 (p4 &&& (3 : Int32)) (2 : Int32))), .val (.int (fv1 ((p4 >>> ((2 : Int32) &&& 31)) &&& (3 : Int32)) (2 : Int32))), .val (.int (fv1 ((p4 >>> ((4 : Int32) &&& 31)) &&& (3 : Int32)) (2 : Int32))), .val (.int (0 : Int32)), .unset, .unset, .unset, .unset, .unset, .unset] [(.ref b8)])) _
    refine XS.astore X8.here hx rfl (hb hby at_53) rfl rfl (l' := #[.val (.int p1), .val (.int p2), .val (.int p3), .val (.int p4), .val (.int (fv1 (p4 &&& (3 : Int32)) (2 : Int32))), .val (.int (fv1 ((p4 >>> ((2 : Int32) &&& 31)) &&& (3 : Int32)) (2 : Int32))), .val (.int (fv1 ((p4 >>> ((4 : Int32) &&& 31)) &&& (3 : Int32)) (2 : Int32))), .val (.int (0 : Int32)), .val (.ref b8), .unset, .unset, .unset, .unset, .unset]) rfl ?_
    show Steps p.tables e below (T8.setTop (mkF m 55 #[.val (.int p1), .val (.int p2), .val (.int p3), .val (.int p4), .val (.int (fv1 (p4 &&& (3 : Int32)) (2 : Int32))), .val (.int (fv1 ((p4 >>> ((2 : Int32) &&& 31)) &&& (3 : Int32)) (2 : Int32))), .val (.int (fv1 ((p4 >>> ((4 : Int32) &&& 31)) &&& (3 : Int32)) (2 : Int32))), .val (.int (0 : Int32)), .val (.ref b8), .unset, .unset, .unset, .unset, .unset] [])) _
    refine XS.iloadN X8.here hx rfl (hb hby at_55) rfl ?_
    show Steps p.tables e below (T8.setTop (mkF m 56 #[.val (.int p1), .val (.int p2), .val (.int p3), .val (.int p4), .val (.int (fv1 (p4 &&& (3 : Int32)) (2 : Int32))), .val (.int (fv1 ((p4 >>> ((2 : Int32) &&& 31)) &&& (3 : Int32)) (2 : Int32))), .val (.int (fv1 ((p4 >>> ((4 : Int32) &&& 31)) &&& (3 : Int32)) (2 : Int32))), .val (.int (0 : Int32)), .val (.ref b8), .unset, .unset, .unset, .unset, .unset] [(.int p2)])) _
    refine XS.iload X8.here hx rfl (hb hby at_56) rfl ?_
    show Steps p.tables e below (T8.setTop (mkF m 58 #[.val (.int p1), .val (.int p2), .val (.int p3), .val (.int p4), .val (.int (fv1 (p4 &&& (3 : Int32)) (2 : Int32))), .val (.int (fv1 ((p4 >>> ((2 : Int32) &&& 31)) &&& (3 : Int32)) (2 : Int32))), .val (.int (fv1 ((p4 >>> ((4 : Int32) &&& 31)) &&& (3 : Int32)) (2 : Int32))), .val (.int (0 : Int32)), .val (.ref b8), .unset, .unset, .unset, .unset, .unset] [(.int (fv1 ((p4 >>> ((2 : Int32) &&& 31)) &&& (3 : Int32)) (2 : Int32))), (.int p2)])) _
    refine st9 _ ?_
    show Steps p.tables e below (T9.setTop (mkF m 61 #[.val (.int p1), .val (.int p2), .val (.int p3), .val (.int p4), .val (.int (fv1 (p4 &&& (3 : Int32)) (2 : Int32))), .val (.int (fv1 ((p4 >>> ((2 : Int32) &&& 31)) &&& (3 : Int32)) (2 : Int32))), .val (.int (fv1 ((p4 >>> ((4 : Int32) &&& 31)) &&& (3 : Int32)) (2 : Int32))), .val (.int (0 : Int32)), .val (.ref b8), .unset, .unset, .unset, .unset, .unset] [(.ref b9)])) _
    refine XS.astore X9.here hx rfl (hb hby at_61) rfl rfl (l' := #[.val (.int p1), .val (.int p2), .val (.int p3), .val (.int p4), .val (.int (fv1 (p4 &&& (3 : Int32)) (2 : Int32))), .val (.int (fv1 ((p4 >>> ((2 : Int32) &&& 31)) &&& (3 : Int32)) (2 : Int32))), .val (.int (fv1 ((p4 >>> ((4 : Int32) &&& 31)) &&& (3 : Int32)) (2 : Int32))), .val (.int (0 : Int32)), .val (.ref b8), .val (.ref b9), .unset, .unset, .unset, .unset]) rfl ?_
    show Steps p.tables e below (T9.setTop (mkF m 63 #[.val (.int p1), .val (.int p2), .val (.int p3), .val (.int p4), .val (.int (fv1 (p4 &&& (3 : Int32)) (2 : Int32))), .val (.int (fv1 ((p4 >>> ((2 : Int32) &&& 31)) &&& (3 : Int32)) (2 : Int32))), .val (.int (fv1 ((p4 >>> ((4 : Int32) &&& 31)) &&& (3 : Int32)) (2 : Int32))), .val (.int (0 : Int32)), .val (.ref b8), .val (.ref b9), .unset, .unset, .unset, .unset] [])) _
    refine XS.iload X9.here hx rfl (hb hby at_63) rfl ?_
    show Steps p.tables e below (T9.setTop (mkF m 65 #[.val (.int p1), .val (.int p2), .val (.int p3), .val (.int p4), .val (.int (fv1 (p4 &&& (3 : Int32)) (2 : Int32))), .val (.int (fv1 ((p4 >>> ((2 : Int32) &&& 31)) &&& (3 : Int32)) (2 : Int32))), .val (.int (fv1 ((p4 >>> ((4 : Int32) &&& 31)) &&& (3 : Int32)) (2 : Int32))), .val (.int (0 : Int32)), .val (.ref b8), .val (.ref b9), .unset, .unset, .unset, .unset] [(.int (0 : Int32))])) _
    refine XS.ifYes X9.here hx rfl (pc0 := 65) (pc' := 77) rfl (hb hby at_65) rfl ((if0 _ _).trans (teq (rfl : (0 : Int32) = (0 : Int32))).1) (by decide) (by decide) ?_
    show Steps p.tables e below (T9.setTop (mkF m 77 #[.val (.int p1), .val (.int p2), .val (.int p3), .val (.int p4), .val (.int (fv1 (p4 &&& (3 : Int32)) (2 : Int32))), .val (.int (fv1 ((p4 >>> ((2 : Int32) &&& 31)) &&& (3 : Int32)) (2 : Int32))), .val (.int (fv1 ((p4 >>> ((4 : Int32) &&& 31)) &&& (3 : Int32)) (2 : Int32))), .val (.int (0 : Int32)), .val (.ref b8), .val (.ref b9), .unset, .unset, .unset, .unset] [])) _
    refine XS.aconstNull X9.here hx rfl (hb hby at_77) ?_
    show Steps p.tables e below (T9.setTop (mkF m 78 #[.val (.int p1), .val (.int p2), .val (.int p3), .val (.int p4), .val (.int (fv1 (p4 &&& (3 : Int32)) (2 : Int32))), .val (.int (fv1 ((p4 >>> ((2 : Int32) &&& 31)) &&& (3 : Int32)) (2 : Int32))), .val (.int (fv1 ((p4 >>> ((4 : Int32) &&& 31)) &&& (3 : Int32)) (2 : Int32))), .val (.int (0 : Int32)), .val (.ref b8), .val (.ref b9), .unset, .unset, .unset, .unset] [.null])) _
    refine XS.astore X9.here hx rfl (hb hby at_78) rfl rfl (l' := #[.val (.int p1), .val (.int p2), .val (.int p3), .val (.int p4), .val (.int (fv1 (p4 &&& (3 : Int32)) (2 : Int32))), .val (.int (fv1 ((p4 >>> ((2 : Int32) &&& 31)) &&& (3 : Int32)) (2 : Int32))), .val (.int (fv1 ((p4 >>> ((4 : Int32) &&& 31)) &&& (3 : Int32)) (2 : Int32))), .val (.int (0 : Int32)), .val (.ref b8), .val (.ref b9), .val .null, .unset, .unset, .unset]) rfl ?_
    show Steps p.tables e below (T9.setTop (mkF m 80 #[.val (.int p1), .val (.int p2), .val (.int p3), .val (.int p4), .val (.int (fv1 (p4 &&& (3 : Int32)) (2 : Int32))), .val (.int (fv1 ((p4 >>> ((2 : Int32) &&& 31)) &&& (3 : Int32)) (2 : Int32))), .val (.int (fv1 ((p4 >>> ((4 : Int32) &&& 31)) &&& (3 : Int32)) (2 : Int32))), .val (.int (0 : Int32)), .val (.ref b8), .val (.ref b9), .val .null, .unset, .unset, .unset] [])) _
    refine st10 _ ?_
    show Steps p.tables e below (T10.setTop (mkF m 83 #[.val (.int p1), .val (.int p2), .val (.int p3), .val (.int p4), .val (.int (fv1 (p4 &&& (3 : Int32)) (2 : Int32))), .val (.int (fv1 ((p4 >>> ((2 : Int32) &&& 31)) &&& (3 : Int32)) (2 : Int32))), .val (.int (fv1 ((p4 >>> ((4 : Int32) &&& 31)) &&& (3 : Int32)) (2 : Int32))), .val (.int (0 : Int32)), .val (.ref b8), .val (.ref b9), .val .null, .unset, .unset, .unset] [(.ref b10)])) _
    refine XS.dup X10.here hx rfl (hb hby at_83) rfl rfl ?_
    show Steps p.tables e below (T10.setTop (mkF m 84 #[.val (.int p1), .val (.int p2), .val (.int p3), .val (.int p4), .val (.int (fv1 (p4 &&& (3 : Int32)) (2 : Int32))), .val (.int (fv1 ((p4 >>> ((2 : Int32) &&& 31)) &&& (3 : Int32)) (2 : Int32))), .val (.int (fv1 ((p4 >>> ((4 : Int32) &&& 31)) &&& (3 : Int32)) (2 : Int32))), .val (.int (0 : Int32)), .val (.ref b8), .val (.ref b9), .val .null, .unset, .unset, .unset] [(.ref b10), (.ref b10)])) _
    refine XS.aload X10.here hx rfl (hb hby at_84) rfl rfl ?_
    show Steps p.tables e below (T10.setTop (mkF m 86 #[.val (.int p1), .val (.int p2), .val (.int p3), .val (.int p4), .val (.int (fv1 (p4 &&& (3 : Int32)) (2 : Int32))), .val (.int (fv1 ((p4 >>> ((2 : Int32) &&& 31)) &&& (3 : Int32)) (2 : Int32))), .val (.int (fv1 ((p4 >>> ((4 : Int32) &&& 31)) &&& (3 : Int32)) (2 : Int32))), .val (.int (0 : Int32)), .val (.ref b8), .val (.ref b9), .val .null, .unset, .unset, .unset] [(.ref b8), (.ref b10), (.ref b10)])) _
    refine XS.aload X10.here hx rfl (hb hby at_86) rfl rfl ?_
    show Steps p.tables e below (T10.setTop (mkF m 88 #[.val (.int p1), .val (.int p2), .val (.int p3), .val (.int p4), .val (.int (fv1 (p4 &&& (3 : Int32)) (2 : Int32))), .val (.int (fv1 ((p4 >>> ((2 : Int32) &&& 31)) &&& (3 : Int32)) (2 : Int32))), .val (.int (fv1 ((p4 >>> ((4 : Int32) &&& 31)) &&& (3 : Int32)) (2 : Int32))), .val (.int (0 : Int32)), .val (.ref b8), .val (.ref b9), .val .null, .unset, .unset, .unset] [(.ref b9), (.ref b8), (.ref b10), (.ref b10)])) _
    refine XS.aload X10.here hx rfl (hb hby at_88) rfl rfl ?_
    show Steps p.tables e below (T10.setTop (mkF m 90 #[.val (.int p1), .val (.int p2), .val (.int p3), .val (.int p4), .val (.int (fv1 (p4 &&& (3 : Int32)) (2 : Int32))), .val (.int (fv1 ((p4 >>> ((2 : Int32) &&& 31)) &&& (3 : Int32)) (2 : Int32))), .val (.int (fv1 ((p4 >>> ((4 : Int32) &&& 31)) &&& (3 : Int32)) (2 : Int32))), .val (.int (0 : Int32)), .val (.ref b8), .val (.ref b9), .val .null, .unset, .unset, .unset] [.null, (.ref b9), (.ref b8), (.ref b10), (.ref b10)])) _
    refine st11.trans ?_
    show Steps p.tables e below (T11.setTop (mkF m 93 #[.val (.int p1), .val (.int p2), .val (.int p3), .val (.int p4), .val (.int (fv1 (p4 &&& (3 : Int32)) (2 : Int32))), .val (.int (fv1 ((p4 >>> ((2 : Int32) &&& 31)) &&& (3 : Int32)) (2 : Int32))), .val (.int (fv1 ((p4 >>> ((4 : Int32) &&& 31)) &&& (3 : Int32)) (2 : Int32))), .val (.int (0 : Int32)), .val (.ref b8), .val (.ref b9), .val .null, .unset, .unset, .unset] [(.ref b10)])) _
    refine XS.astore X11.here hx rfl (hb hby at_93) rfl rfl (l' := #[.val (.int p1), .val (.int p2), .val (.int p3), .val (.int p4), .val (.int (fv1 (p4 &&& (3 : Int32)) (2 : Int32))), .val (.int (fv1 ((p4 >>> ((2 : Int32) &&& 31)) &&& (3 : Int32)) (2 : Int32))), .val (.int (fv1 ((p4 >>> ((4 : Int32) &&& 31)) &&& (3 : Int32)) (2 : Int32))), .val (.int (0 : Int32)), .val (.ref b8), .val (.ref b9), .val .null, .val (.ref b10), .unset, .unset]) rfl ?_
    show Steps p.tables e below (T11.setTop (mkF m 95 #[.val (.int p1), .val (.int p2), .val (.int p3), .val (.int p4), .val (.int (fv1 (p4 &&& (3 : Int32)) (2 : Int32))), .val (.int (fv1 ((p4 >>> ((2 : Int32) &&& 31)) &&& (3 : Int32)) (2 : Int32))), .val (.int (fv1 ((p4 >>> ((4 : Int32) &&& 31)) &&& (3 : Int32)) (2 : Int32))), .val (.int (0 : Int32)), .val (.ref b8), .val (.ref b9), .val .null, .val (.ref b10), .unset, .unset] [])) _
    refine XS.aload X11.here hx rfl (hb hby at_95) rfl rfl ?_
    show Steps p.tables e below (T11.setTop (mkF m 97 #[.val (.int p1), .val (.int p2), .val (.int p3), .val (.int p4), .val (.int (fv1 (p4 &&& (3 : Int32)) (2 : Int32))), .val (.int (fv1 ((p4 >>> ((2 : Int32) &&& 31)) &&& (3 : Int32)) (2 : Int32))), .val (.int (fv1 ((p4 >>> ((4 : Int32) &&& 31)) &&& (3 : Int32)) (2 : Int32))), .val (.int (0 : Int32)), .val (.ref b8), .val (.ref b9), .val .null, .val (.ref b10), .unset, .unset] [(.ref b10)])) _
    refine st12.trans ?_
    show Steps p.tables e below (T12.setTop (mkF m 100 #[.val (.int p1), .val (.int p2), .val (.int p3), .val (.int p4), .val (.int (fv1 (p4 &&& (3 : Int32)) (2 : Int32))), .val (.int (fv1 ((p4 >>> ((2 : Int32) &&& 31)) &&& (3 : Int32)) (2 : Int32))), .val (.int (fv1 ((p4 >>> ((4 : Int32) &&& 31)) &&& (3 : Int32)) (2 : Int32))), .val (.int (0 : Int32)), .val (.ref b8), .val (.ref b9), .val .null, .val (.ref b10), .unset, .unset] [(.ref b10)])) _
    refine XS.astore X12.here hx rfl (hb hby at_100) rfl rfl (l' := #[.val (.int p1), .val (.int p2), .val (.int p3), .val (.int p4), .val (.int (fv1 (p4 &&& (3 : Int32)) (2 : Int32))), .val (.int (fv1 ((p4 >>> ((2 : Int32) &&& 31)) &&& (3 : Int32)) (2 : Int32))), .val (.int (fv1 ((p4 >>> ((4 : Int32) &&& 31)) &&& (3 : Int32)) (2 : Int32))), .val (.int (0 : Int32)), .val (.ref b8), .val (.ref b9), .val .null, .val (.ref b10), .val (.ref b10), .unset]) rfl ?_
    show Steps p.tables e below (T12.setTop (mkF m 102 #[.val (.int p1), .val (.int p2), .val (.int p3), .val (.int p4), .val (.int (fv1 (p4 &&& (3 : Int32)) (2 : Int32))), .val (.int (fv1 ((p4 >>> ((2 : Int32) &&& 31)) &&& (3 : Int32)) (2 : Int32))), .val (.int (fv1 ((p4 >>> ((4 : Int32) &&& 31)) &&& (3 : Int32)) (2 : Int32))), .val (.int (0 : Int32)), .val (.ref b8), .val (.ref b9), .val .null, .val (.ref b10), .val (.ref b10), .unset] [])) _
    refine XS.aload X12.here hx rfl (hb hby at_102) rfl rfl ?_
    show Steps p.tables e below (T12.setTop (mkF m 104 #[.val (.int p1), .val (.int p2), .val (.int p3), .val (.int p4), .val (.int (fv1 (p4 &&& (3 : Int32)) (2 : Int32))), .val (.int (fv1 ((p4 >>> ((2 : Int32) &&& 31)) &&& (3 : Int32)) (2 : Int32))), .val (.int (fv1 ((p4 >>> ((4 : Int32) &&& 31)) &&& (3 : Int32)) (2 : Int32))), .val (.int (0 : Int32)), .val (.ref b8), .val (.ref b9), .val .null, .val (.ref b10), .val (.ref b10), .unset] [(.ref b10)])) _
    refine XS.ifnonnullYes X12.here hx rfl (pc0 := 104) (pc' := 109) rfl (hb hby at_104) rfl (by decide) (by decide) ?_
    show Steps p.tables e below (T12.setTop (mkF m 109 #[.val (.int p1), .val (.int p2), .val (.int p3), .val (.int p4), .val (.int (fv1 (p4 &&& (3 : Int32)) (2 : Int32))), .val (.int (fv1 ((p4 >>> ((2 : Int32) &&& 31)) &&& (3 : Int32)) (2 : Int32))), .val (.int (fv1 ((p4 >>> ((4 : Int32) &&& 31)) &&& (3 : Int32)) (2 : Int32))), .val (.int (0 : Int32)), .val (.ref b8), .val (.ref b9), .val .null, .val (.ref b10), .val (.ref b10), .unset] [])) _
    refine XS.aload X12.here hx rfl (hb hby at_109) rfl rfl ?_
    show Steps p.tables e below (T12.setTop (mkF m 111 #[.val (.int p1), .val (.int p2), .val (.int p3), .val (.int p4), .val (.int (fv1 (p4 &&& (3 : Int32)) (2 : Int32))), .val (.int (fv1 ((p4 >>> ((2 : Int32) &&& 31)) &&& (3 : Int32)) (2 : Int32))), .val (.int (fv1 ((p4 >>> ((4 : Int32) &&& 31)) &&& (3 : Int32)) (2 : Int32))), .val (.int (0 : Int32)), .val (.ref b8), .val (.ref b9), .val .null, .val (.ref b10), .val (.ref b10), .unset] [(.ref b10)])) _
    refine st13.trans ?_
    show Steps p.tables e below (T13.setTop (mkF m 114 #[.val (.int p1), .val (.int p2), .val (.int p3), .val (.int p4), .val (.int (fv1 (p4 &&& (3 : Int32)) (2 : Int32))), .val (.int (fv1 ((p4 >>> ((2 : Int32) &&& 31)) &&& (3 : Int32)) (2 : Int32))), .val (.int (fv1 ((p4 >>> ((4 : Int32) &&& 31)) &&& (3 : Int32)) (2 : Int32))), .val (.int (0 : Int32)), .val (.ref b8), .val (.ref b9), .val .null, .val (.ref b10), .val (.ref b10), .unset] [.null])) _
    refine XS.ifnonnullNo X13.here hx rfl (hb hby at_114) rfl ?_
    show Steps p.tables e below (T13.setTop (mkF m 117 #[.val (.int p1), .val (.int p2), .val (.int p3), .val (.int p4), .val (.int (fv1 (p4 &&& (3 : Int32)) (2 : Int32))), .val (.int (fv1 ((p4 >>> ((2 : Int32) &&& 31)) &&& (3 : Int32)) (2 : Int32))), .val (.int (fv1 ((p4 >>> ((4 : Int32) &&& 31)) &&& (3 : Int32)) (2 : Int32))), .val (.int (0 : Int32)), .val (.ref b8), .val (.ref b9), .val .null, .val (.ref b10), .val (.ref b10), .unset] [])) _
    refine XS.aload X13.here hx rfl (hb hby at_117) rfl rfl ?_
    show Steps p.tables e below (T13.setTop (mkF m 119 #[.val (.int p1), .val (.int p2), .val (.int p3), .val (.int p4), .val (.int (fv1 (p4 &&& (3 : Int32)) (2 : Int32))), .val (.int (fv1 ((p4 >>> ((2 : Int32) &&& 31)) &&& (3 : Int32)) (2 : Int32))), .val (.int (fv1 ((p4 >>> ((4 : Int32) &&& 31)) &&& (3 : Int32)) (2 : Int32))), .val (.int (0 : Int32)), .val (.ref b8), .val (.ref b9), .val .null, .val (.ref b10), .val (.ref b10), .unset] [(.ref b10)])) _
    refine st14.trans ?_
    show Steps p.tables e below (T14.setTop (mkF m 122 #[.val (.int p1), .val (.int p2), .val (.int p3), .val (.int p4), .val (.int (fv1 (p4 &&& (3 : Int32)) (2 : Int32))), .val (.int (fv1 ((p4 >>> ((2 : Int32) &&& 31)) &&& (3 : Int32)) (2 : Int32))), .val (.int (fv1 ((p4 >>> ((4 : Int32) &&& 31)) &&& (3 : Int32)) (2 : Int32))), .val (.int (0 : Int32)), .val (.ref b8), .val (.ref b9), .val .null, .val (.ref b10), .val (.ref b10), .unset] [(.ref b8)])) _
    refine XS.iloadN X14.here hx rfl (hb hby at_122) rfl ?_
    show Steps p.tables e below (T14.setTop (mkF m 123 #[.val (.int p1), .val (.int p2), .val (.int p3), .val (.int p4), .val (.int (fv1 (p4 &&& (3 : Int32)) (2 : Int32))), .val (.int (fv1 ((p4 >>> ((2 : Int32) &&& 31)) &&& (3 : Int32)) (2 : Int32))), .val (.int (fv1 ((p4 >>> ((4 : Int32) &&& 31)) &&& (3 : Int32)) (2 : Int32))), .val (.int (0 : Int32)), .val (.ref b8), .val (.ref b9), .val .null, .val (.ref b10), .val (.ref b10), .unset] [(.int p1), (.ref b8)])) _
    refine XS.iload X14.here hx rfl (hb hby at_123) rfl ?_
    show Steps p.tables e below (T14.setTop (mkF m 125 #[.val (.int p1), .val (.int p2), .val (.int p3), .val (.int p4), .val (.int (fv1 (p4 &&& (3 : Int32)) (2 : Int32))), .val (.int (fv1 ((p4 >>> ((2 : Int32) &&& 31)) &&& (3 : Int32)) (2 : Int32))), .val (.int (fv1 ((p4 >>> ((4 : Int32) &&& 31)) &&& (3 : Int32)) (2 : Int32))), .val (.int (0 : Int32)), .val (.ref b8), .val (.ref b9), .val .null, .val (.ref b10), .val (.ref b10), .unset] [(.int (fv1 (p4 &&& (3 : Int32)) (2 : Int32))), (.int p1), (.ref b8)])) _
    refine st15 _ ?_
    show Steps p.tables e below (T15.setTop (mkF m 128 #[.val (.int p1), .val (.int p2), .val (.int p3), .val (.int p4), .val (.int (fv1 (p4 &&& (3 : Int32)) (2 : Int32))), .val (.int (fv1 ((p4 >>> ((2 : Int32) &&& 31)) &&& (3 : Int32)) (2 : Int32))), .val (.int (fv1 ((p4 >>> ((4 : Int32) &&& 31)) &&& (3 : Int32)) (2 : Int32))), .val (.int (0 : Int32)), .val (.ref b8), .val (.ref b9), .val .null, .val (.ref b10), .val (.ref b10), .unset] [(.int (1 : Int32))])) _
    refine XS.ifNo X15.here hx rfl (hb hby at_128) rfl ((if0 _ _).trans (feq hc128).1) ?_
    show Steps p.tables e below (T15.setTop (mkF m 131 #[.val (.int p1), .val (.int p2), .val (.int p3), .val (.int p4), .val (.int (fv1 (p4 &&& (3 : Int32)) (2 : Int32))), .val (.int (fv1 ((p4 >>> ((2 : Int32) &&& 31)) &&& (3 : Int32)) (2 : Int32))), .val (.int (fv1 ((p4 >>> ((4 : Int32) &&& 31)) &&& (3 : Int32)) (2 : Int32))), .val (.int (0 : Int32)), .val (.ref b8), .val (.ref b9), .val .null, .val (.ref b10), .val (.ref b10), .unset] [])) _
    refine XS.aload X15.here hx rfl (hb hby at_131) rfl rfl ?_
    show Steps p.tables e below (T15.setTop (mkF m 133 #[.val (.int p1), .val (.int p2), .val (.int p3), .val (.int p4), .val (.int (fv1 (p4 &&& (3 : Int32)) (2 : Int32))), .val (.int (fv1 ((p4 >>> ((2 : Int32) &&& 31)) &&& (3 : Int32)) (2 : Int32))), .val (.int (fv1 ((p4 >>> ((4 : Int32) &&& 31)) &&& (3 : Int32)) (2 : Int32))), .val (.int (0 : Int32)), .val (.ref b8), .val (.ref b9), .val .null, .val (.ref b10), .val (.ref b10), .unset] [(.ref b10)])) _
    refine st16.trans ?_
    show Steps p.tables e below (T16.setTop (mkF m 136 #[.val (.int p1), .val (.int p2), .val (.int p3), .val (.int p4), .val (.int (fv1 (p4 &&& (3 : Int32)) (2 : Int32))), .val (.int (fv1 ((p4 >>> ((2 : Int32) &&& 31)) &&& (3 : Int32)) (2 : Int32))), .val (.int (fv1 ((p4 >>> ((4 : Int32) &&& 31)) &&& (3 : Int32)) (2 : Int32))), .val (.int (0 : Int32)), .val (.ref b8), .val (.ref b9), .val .null, .val (.ref b10), .val (.ref b10), .unset] [(.ref b9)])) _
    refine XS.iloadN X16.here hx rfl (hb hby at_136) rfl ?_
    show Steps p.tables e below (T16.setTop (mkF m 137 #[.val (.int p1), .val (.int p2), .val (.int p3), .val (.int p4), .val (.int (fv1 (p4 &&& (3 : Int32)) (2 : Int32))), .val (.int (fv1 ((p4 >>> ((2 : Int32) &&& 31)) &&& (3 : Int32)) (2 : Int32))), .val (.int (fv1 ((p4 >>> ((4 : Int32) &&& 31)) &&& (3 : Int32)) (2 : Int32))), .val (.int (0 : Int32)), .val (.ref b8), .val (.ref b9), .val .null, .val (.ref b10), .val (.ref b10), .unset] [(.int p2), (.ref b9)])) _
    refine XS.iload X16.here hx rfl (hb hby at_137) rfl ?_
    show Steps p.tables e below (T16.setTop (mkF m 139 #[.val (.int p1), .val (.int p2), .val (.int p3), .val (.int p4), .val (.int (fv1 (p4 &&& (3 : Int32)) (2 : Int32))), .val (.int (fv1 ((p4 >>> ((2 : Int32) &&& 31)) &&& (3 : Int32)) (2 : Int32))), .val (.int (fv1 ((p4 >>> ((4 : Int32) &&& 31)) &&& (3 : Int32)) (2 : Int32))), .val (.int (0 : Int32)), .val (.ref b8), .val (.ref b9), .val .null, .val (.ref b10), .val (.ref b10), .unset] [(.int (fv1 ((p4 >>> ((2 : Int32) &&& 31)) &&& (3 : Int32)) (2 : Int32))), (.int p2), (.ref b9)])) _
    refine st17 _ ?_
    show Steps p.tables e below (T17.setTop (mkF m 142 #[.val (.int p1), .val (.int p2), .val (.int p3), .val (.int p4), .val (.int (fv1 (p4 &&& (3 : Int32)) (2 : Int32))), .val (.int (fv1 ((p4 >>> ((2 : Int32) &&& 31)) &&& (3 : Int32)) (2 : Int32))), .val (.int (fv1 ((p4 >>> ((4 : Int32) &&& 31)) &&& (3 : Int32)) (2 : Int32))), .val (.int (0 : Int32)), .val (.ref b8), .val (.ref b9), .val .null, .val (.ref b10), .val (.ref b10), .unset] [(.int (1 : Int32))])) _
    refine XS.ifNo X17.here hx rfl (hb hby at_142) rfl ((if0 _ _).trans (feq hc142).1) ?_
    show Steps p.tables e below (T17.setTop (mkF m 145 #[.val (.int p1), .val (.int p2), .val (.int p3), .val (.int p4), .val (.int (fv1 (p4 &&& (3 : Int32)) (2 : Int32))), .val (.int (fv1 ((p4 >>> ((2 : Int32) &&& 31)) &&& (3 : Int32)) (2 : Int32))), .val (.int (fv1 ((p4 >>> ((4 : Int32) &&& 31)) &&& (3 : Int32)) (2 : Int32))), .val (.int (0 : Int32)), .val (.ref b8), .val (.ref b9), .val .null, .val (.ref b10), .val (.ref b10), .unset] [])) _
    refine XS.iconst X17.here hx rfl (hb hby at_145) ?_
    show Steps p.tables e below (T17.setTop (mkF m 146 #[.val (.int p1), .val (.int p2), .val (.int p3), .val (.int p4), .val (.int (fv1 (p4 &&& (3 : Int32)) (2 : Int32))), .val (.int (fv1 ((p4 >>> ((2 : Int32) &&& 31)) &&& (3 : Int32)) (2 : Int32))), .val (.int (fv1 ((p4 >>> ((4 : Int32) &&& 31)) &&& (3 : Int32)) (2 : Int32))), .val (.int (0 : Int32)), .val (.ref b8), .val (.ref b9), .val .null, .val (.ref b10), .val (.ref b10), .unset] [(.int (1 : Int32))])) _
    refine XS.goto X17.here hx rfl (pc0 := 146) (pc' := 150) rfl (hb hby at_146) (by decide) (by decide) ?_
    show Steps p.tables e below (T17.setTop (mkF m 150 #[.val (.int p1), .val (.int p2), .val (.int p3), .val (.int p4), .val (.int (fv1 (p4 &&& (3 : Int32)) (2 : Int32))), .val (.int (fv1 ((p4 >>> ((2 : Int32) &&& 31)) &&& (3 : Int32)) (2 : Int32))), .val (.int (fv1 ((p4 >>> ((4 : Int32) &&& 31)) &&& (3 : Int32)) (2 : Int32))), .val (.int (0 : Int32)), .val (.ref b8), .val (.ref b9), .val .null, .val (.ref b10), .val (.ref b10), .unset] [(.int (1 : Int32))])) _
    refine XS.istore X17.here hx rfl (hb hby at_150) rfl (l' := #[.val (.int p1), .val (.int p2), .val (.int p3), .val (.int p4), .val (.int (fv1 (p4 &&& (3 : Int32)) (2 : Int32))), .val (.int (fv1 ((p4 >>> ((2 : Int32) &&& 31)) &&& (3 : Int32)) (2 : Int32))), .val (.int (fv1 ((p4 >>> ((4 : Int32) &&& 31)) &&& (3 : Int32)) (2 : Int32))), .val (.int (0 : Int32)), .val (.ref b8), .val (.ref b9), .val .null, .val (.ref b10), .val (.ref b10), .val (.int (1 : Int32))]) rfl ?_
    show Steps p.tables e below (T17.setTop (mkF m 152 #[.val (.int p1), .val (.int p2), .val (.int p3), .val (.int p4), .val (.int (fv1 (p4 &&& (3 : Int32)) (2 : Int32))), .val (.int (fv1 ((p4 >>> ((2 : Int32) &&& 31)) &&& (3 : Int32)) (2 : Int32))), .val (.int (fv1 ((p4 >>> ((4 : Int32) &&& 31)) &&& (3 : Int32)) (2 : Int32))), .val (.int (0 : Int32)), .val (.ref b8), .val (.ref b9), .val .null, .val (.ref b10), .val (.ref b10), .val (.int (1 : Int32))] [])) _
    refine XS.iload X17.here hx rfl (hb hby at_152) rfl ?_
    show Steps p.tables e below (T17.setTop (mkF m 154 #[.val (.int p1), .val (.int p2), .val (.int p3), .val (.int p4), .val (.int (fv1 (p4 &&& (3 : Int32)) (2 : Int32))), .val (.int (fv1 ((p4 >>> ((2 : Int32) &&& 31)) &&& (3 : Int32)) (2 : Int32))), .val (.int (fv1 ((p4 >>> ((4 : Int32) &&& 31)) &&& (3 : Int32)) (2 : Int32))), .val (.int (0 : Int32)), .val (.ref b8), .val (.ref b9), .val .null, .val (.ref b10), .val (.ref b10), .val (.int (1 : Int32))] [(.int (1 : Int32))])) _
    refine XS.ifNo X17.here hx rfl (hb hby at_154) rfl ((if0 _ _).trans (feq hc154).1) ?_
    show Steps p.tables e below (T17.setTop (mkF m 157 #[.val (.int p1), .val (.int p2), .val (.int p3), .val (.int p4), .val (.int (fv1 (p4 &&& (3 : Int32)) (2 : Int32))), .val (.int (fv1 ((p4 >>> ((2 : Int32) &&& 31)) &&& (3 : Int32)) (2 : Int32))), .val (.int (fv1 ((p4 >>> ((4 : Int32) &&& 31)) &&& (3 : Int32)) (2 : Int32))), .val (.int (0 : Int32)), .val (.ref b8), .val (.ref b9), .val .null, .val (.ref b10), .val (.ref b10), .val (.int (1 : Int32))] [])) _
    refine XS.aload X17.here hx rfl (hb hby at_157) rfl rfl ?_
    show Steps p.tables e below (T17.setTop (mkF m 159 #[.val (.int p1), .val (.int p2), .val (.int p3), .val (.int p4), .val (.int (fv1 (p4 &&& (3 : Int32)) (2 : Int32))), .val (.int (fv1 ((p4 >>> ((2 : Int32) &&& 31)) &&& (3 : Int32)) (2 : Int32))), .val (.int (fv1 ((p4 >>> ((4 : Int32) &&& 31)) &&& (3 : Int32)) (2 : Int32))), .val (.int (0 : Int32)), .val (.ref b8), .val (.ref b9), .val .null, .val (.ref b10), .val (.ref b10), .val (.int (1 : Int32))] [(.ref b10)])) _
    refine st18.trans ?_
    show Steps p.tables e below (T18.setTop (mkF m 162 #[.val (.int p1), .val (.int p2), .val (.int p3), .val (.int p4), .val (.int (fv1 (p4 &&& (3 : Int32)) (2 : Int32))), .val (.int (fv1 ((p4 >>> ((2 : Int32) &&& 31)) &&& (3 : Int32)) (2 : Int32))), .val (.int (fv1 ((p4 >>> ((4 : Int32) &&& 31)) &&& (3 : Int32)) (2 : Int32))), .val (.int (0 : Int32)), .val (.ref b8), .val (.ref b9), .val .null, .val (.ref b10), .val (.ref b10), .val (.int (1 : Int32))] [.null])) _
    refine XS.aload X18.here hx rfl (hb hby at_162) rfl rfl ?_
    show Steps p.tables e below (T18.setTop (mkF m 164 #[.val (.int p1), .val (.int p2), .val (.int p3), .val (.int p4), .val (.int (fv1 (p4 &&& (3 : Int32)) (2 : Int32))), .val (.int (fv1 ((p4 >>> ((2 : Int32) &&& 31)) &&& (3 : Int32)) (2 : Int32))), .val (.int (fv1 ((p4 >>> ((4 : Int32) &&& 31)) &&& (3 : Int32)) (2 : Int32))), .val (.int (0 : Int32)), .val (.ref b8), .val (.ref b9), .val .null, .val (.ref b10), .val (.ref b10), .val (.int (1 : Int32))] [.null, .null])) _
    refine Jvm.RoadKit.acmp (g := (mkF m 164 #[.val (.int p1), .val (.int p2), .val (.int p3), .val (.int p4), .val (.int (fv1 (p4 &&& (3 : Int32)) (2 : Int32))), .val (.int (fv1 ((p4 >>> ((2 : Int32) &&& 31)) &&& (3 : Int32)) (2 : Int32))), .val (.int (fv1 ((p4 >>> ((4 : Int32) &&& 31)) &&& (3 : Int32)) (2 : Int32))), .val (.int (0 : Int32)), .val (.ref b8), .val (.ref b9), .val .null, .val (.ref b10), .val (.ref b10), .val (.int (1 : Int32))] [.null, .null])) X18 hx rfl rfl rfl (pc0 := 164) (pc' := 167) (same := true) rfl (hb hby at_164) rfl (decide_eq_true rfl) (by decide) (by decide) ?_
    show Steps p.tables e below (T18.setTop (mkF m 167 #[.val (.int p1), .val (.int p2), .val (.int p3), .val (.int p4), .val (.int (fv1 (p4 &&& (3 : Int32)) (2 : Int32))), .val (.int (fv1 ((p4 >>> ((2 : Int32) &&& 31)) &&& (3 : Int32)) (2 : Int32))), .val (.int (fv1 ((p4 >>> ((4 : Int32) &&& 31)) &&& (3 : Int32)) (2 : Int32))), .val (.int (0 : Int32)), .val (.ref b8), .val (.ref b9), .val .null, .val (.ref b10), .val (.ref b10), .val (.int (1 : Int32))] [])) _
    refine XS.aload X18.here hx rfl (hb hby at_167) rfl rfl ?_
    show Steps p.tables e below (T18.setTop (mkF m 169 #[.val (.int p1), .val (.int p2), .val (.int p3), .val (.int p4), .val (.int (fv1 (p4 &&& (3 : Int32)) (2 : Int32))), .val (.int (fv1 ((p4 >>> ((2 : Int32) &&& 31)) &&& (3 : Int32)) (2 : Int32))), .val (.int (fv1 ((p4 >>> ((4 : Int32) &&& 31)) &&& (3 : Int32)) (2 : Int32))), .val (.int (0 : Int32)), .val (.ref b8), .val (.ref b9), .val .null, .val (.ref b10), .val (.ref b10), .val (.int (1 : Int32))] [(.ref b10)])) _
    refine st19.trans ?_
    show Steps p.tables e below (T19.setTop (mkF m 172 #[.val (.int p1), .val (.int p2), .val (.int p3), .val (.int p4), .val (.int (fv1 (p4 &&& (3 : Int32)) (2 : Int32))), .val (.int (fv1 ((p4 >>> ((2 : Int32) &&& 31)) &&& (3 : Int32)) (2 : Int32))), .val (.int (fv1 ((p4 >>> ((4 : Int32) &&& 31)) &&& (3 : Int32)) (2 : Int32))), .val (.int (0 : Int32)), .val (.ref b8), .val (.ref b9), .val .null, .val (.ref b10), .val (.ref b10), .val (.int (1 : Int32))] [(.ref b8)])) _
    refine XS.iloadN X19.here hx rfl (hb hby at_172) rfl ?_
    show Steps p.tables e below (T19.setTop (mkF m 173 #[.val (.int p1), .val (.int p2), .val (.int p3), .val (.int p4), .val (.int (fv1 (p4 &&& (3 : Int32)) (2 : Int32))), .val (.int (fv1 ((p4 >>> ((2 : Int32) &&& 31)) &&& (3 : Int32)) (2 : Int32))), .val (.int (fv1 ((p4 >>> ((4 : Int32) &&& 31)) &&& (3 : Int32)) (2 : Int32))), .val (.int (0 : Int32)), .val (.ref b8), .val (.ref b9), .val .null, .val (.ref b10), .val (.ref b10), .val (.int (1 : Int32))] [(.int p1), (.ref b8)])) _
    refine XS.iload X19.here hx rfl (hb hby at_173) rfl ?_
    show Steps p.tables e below (T19.setTop (mkF m 175 #[.val (.int p1), .val (.int p2), .val (.int p3), .val (.int p4), .val (.int (fv1 (p4 &&& (3 : Int32)) (2 : Int32))), .val (.int (fv1 ((p4 >>> ((2 : Int32) &&& 31)) &&& (3 : Int32)) (2 : Int32))), .val (.int (fv1 ((p4 >>> ((4 : Int32) &&& 31)) &&& (3 : Int32)) (2 : Int32))), .val (.int (0 : Int32)), .val (.ref b8), .val (.ref b9), .val .null, .val (.ref b10), .val (.ref b10), .val (.int (1 : Int32))] [(.int (fv1 (p4 &&& (3 : Int32)) (2 : Int32))), (.int p1), (.ref b8)])) _
    refine st20 _ ?_
    show Steps p.tables e below (T20.setTop (mkF m 178 #[.val (.int p1), .val (.int p2), .val (.int p3), .val (.int p4), .val (.int (fv1 (p4 &&& (3 : Int32)) (2 : Int32))), .val (.int (fv1 ((p4 >>> ((2 : Int32) &&& 31)) &&& (3 : Int32)) (2 : Int32))), .val (.int (fv1 ((p4 >>> ((4 : Int32) &&& 31)) &&& (3 : Int32)) (2 : Int32))), .val (.int (0 : Int32)), .val (.ref b8), .val (.ref b9), .val .null, .val (.ref b10), .val (.ref b10), .val (.int (1 : Int32))] [(.int (1 : Int32))])) _
    refine XS.ifNo X20.here hx rfl (hb hby at_178) rfl ((if0 _ _).trans (feq hc178).1) ?_
    show Steps p.tables e below (T20.setTop (mkF m 181 #[.val (.int p1), .val (.int p2), .val (.int p3), .val (.int p4), .val (.int (fv1 (p4 &&& (3 : Int32)) (2 : Int32))), .val (.int (fv1 ((p4 >>> ((2 : Int32) &&& 31)) &&& (3 : Int32)) (2 : Int32))), .val (.int (fv1 ((p4 >>> ((4 : Int32) &&& 31)) &&& (3 : Int32)) (2 : Int32))), .val (.int (0 : Int32)), .val (.ref b8), .val (.ref b9), .val .null, .val (.ref b10), .val (.ref b10), .val (.int (1 : Int32))] [])) _
    refine XS.aload X20.here hx rfl (hb hby at_181) rfl rfl ?_
    show Steps p.tables e below (T20.setTop (mkF m 183 #[.val (.int p1), .val (.int p2), .val (.int p3), .val (.int p4), .val (.int (fv1 (p4 &&& (3 : Int32)) (2 : Int32))), .val (.int (fv1 ((p4 >>> ((2 : Int32) &&& 31)) &&& (3 : Int32)) (2 : Int32))), .val (.int (fv1 ((p4 >>> ((4 : Int32) &&& 31)) &&& (3 : Int32)) (2 : Int32))), .val (.int (0 : Int32)), .val (.ref b8), .val (.ref b9), .val .null, .val (.ref b10), .val (.ref b10), .val (.int (1 : Int32))] [(.ref b10)])) _
    refine st21.trans ?_
    show Steps p.tables e below (T21.setTop (mkF m 186 #[.val (.int p1), .val (.int p2), .val (.int p3), .val (.int p4), .val (.int (fv1 (p4 &&& (3 : Int32)) (2 : Int32))), .val (.int (fv1 ((p4 >>> ((2 : Int32) &&& 31)) &&& (3 : Int32)) (2 : Int32))), .val (.int (fv1 ((p4 >>> ((4 : Int32) &&& 31)) &&& (3 : Int32)) (2 : Int32))), .val (.int (0 : Int32)), .val (.ref b8), .val (.ref b9), .val .null, .val (.ref b10), .val (.ref b10), .val (.int (1 : Int32))] [(.ref b9)])) _
    refine XS.iloadN X21.here hx rfl (hb hby at_186) rfl ?_
    show Steps p.tables e below (T21.setTop (mkF m 187 #[.val (.int p1), .val (.int p2), .val (.int p3), .val (.int p4), .val (.int (fv1 (p4 &&& (3 : Int32)) (2 : Int32))), .val (.int (fv1 ((p4 >>> ((2 : Int32) &&& 31)) &&& (3 : Int32)) (2 : Int32))), .val (.int (fv1 ((p4 >>> ((4 : Int32) &&& 31)) &&& (3 : Int32)) (2 : Int32))), .val (.int (0 : Int32)), .val (.ref b8), .val (.ref b9), .val .null, .val (.ref b10), .val (.ref b10), .val (.int (1 : Int32))] [(.int p2), (.ref b9)])) _
    refine XS.iload X21.here hx rfl (hb hby at_187) rfl ?_
    show Steps p.tables e below (T21.setTop (mkF m 189 #[.val (.int p1), .val (.int p2), .val (.int p3), .val (.int p4), .val (.int (fv1 (p4 &&& (3 : Int32)) (2 : Int32))), .val (.int (fv1 ((p4 >>> ((2 : Int32) &&& 31)) &&& (3 : Int32)) (2 : Int32))), .val (.int (fv1 ((p4 >>> ((4 : Int32) &&& 31)) &&& (3 : Int32)) (2 : Int32))), .val (.int (0 : Int32)), .val (.ref b8), .val (.ref b9), .val .null, .val (.ref b10), .val (.ref b10), .val (.int (1 : Int32))] [(.int (fv1 ((p4 >>> ((2 : Int32) &&& 31)) &&& (3 : Int32)) (2 : Int32))), (.int p2), (.ref b9)])) _
    refine st22 _ ?_
    show Steps p.tables e below (T22.setTop (mkF m 192 #[.val (.int p1), .val (.int p2), .val (.int p3), .val (.int p4), .val (.int (fv1 (p4 &&& (3 : Int32)) (2 : Int32))), .val (.int (fv1 ((p4 >>> ((2 : Int32) &&& 31)) &&& (3 : Int32)) (2 : Int32))), .val (.int (fv1 ((p4 >>> ((4 : Int32) &&& 31)) &&& (3 : Int32)) (2 : Int32))), .val (.int (0 : Int32)), .val (.ref b8), .val (.ref b9), .val .null, .val (.ref b10), .val (.ref b10), .val (.int (1 : Int32))] [(.int (1 : Int32))])) _
    refine XS.ifNo X22.here hx rfl (hb hby at_192) rfl ((if0 _ _).trans (feq hc192).1) ?_
    show Steps p.tables e below (T22.setTop (mkF m 195 #[.val (.int p1), .val (.int p2), .val (.int p3), .val (.int p4), .val (.int (fv1 (p4 &&& (3 : Int32)) (2 : Int32))), .val (.int (fv1 ((p4 >>> ((2 : Int32) &&& 31)) &&& (3 : Int32)) (2 : Int32))), .val (.int (fv1 ((p4 >>> ((4 : Int32) &&& 31)) &&& (3 : Int32)) (2 : Int32))), .val (.int (0 : Int32)), .val (.ref b8), .val (.ref b9), .val .null, .val (.ref b10), .val (.ref b10), .val (.int (1 : Int32))] [])) _
    refine XS.aload X22.here hx rfl (hb hby at_195) rfl rfl ?_
    show Steps p.tables e below (T22.setTop (mkF m 197 #[.val (.int p1), .val (.int p2), .val (.int p3), .val (.int p4), .val (.int (fv1 (p4 &&& (3 : Int32)) (2 : Int32))), .val (.int (fv1 ((p4 >>> ((2 : Int32) &&& 31)) &&& (3 : Int32)) (2 : Int32))), .val (.int (fv1 ((p4 >>> ((4 : Int32) &&& 31)) &&& (3 : Int32)) (2 : Int32))), .val (.int (0 : Int32)), .val (.ref b8), .val (.ref b9), .val .null, .val (.ref b10), .val (.ref b10), .val (.int (1 : Int32))] [.null])) _
    refine XS.ifnullYes X22.here hx rfl (pc0 := 197) (pc' := 211) rfl (hb hby at_197) rfl (by decide) (by decide) ?_
    show Steps p.tables e below (T22.setTop (mkF m 211 #[.val (.int p1), .val (.int p2), .val (.int p3), .val (.int p4), .val (.int (fv1 (p4 &&& (3 : Int32)) (2 : Int32))), .val (.int (fv1 ((p4 >>> ((2 : Int32) &&& 31)) &&& (3 : Int32)) (2 : Int32))), .val (.int (fv1 ((p4 >>> ((4 : Int32) &&& 31)) &&& (3 : Int32)) (2 : Int32))), .val (.int (0 : Int32)), .val (.ref b8), .val (.ref b9), .val .null, .val (.ref b10), .val (.ref b10), .val (.int (1 : Int32))] [])) _
    refine XS.iconst X22.here hx rfl (hb hby at_211) ?_
    show Steps p.tables e below (T22.setTop (mkF m 212 #[.val (.int p1), .val (.int p2), .val (.int p3), .val (.int p4), .val (.int (fv1 (p4 &&& (3 : Int32)) (2 : Int32))), .val (.int (fv1 ((p4 >>> ((2 : Int32) &&& 31)) &&& (3 : Int32)) (2 : Int32))), .val (.int (fv1 ((p4 >>> ((4 : Int32) &&& 31)) &&& (3 : Int32)) (2 : Int32))), .val (.int (0 : Int32)), .val (.ref b8), .val (.ref b9), .val .null, .val (.ref b10), .val (.ref b10), .val (.int (1 : Int32))] [(.int (1 : Int32))])) _
    refine XS.goto X22.here hx rfl (pc0 := 212) (pc' := 216) rfl (hb hby at_212) (by decide) (by decide) ?_
    show Steps p.tables e below (T22.setTop (mkF m 216 #[.val (.int p1), .val (.int p2), .val (.int p3), .val (.int p4), .val (.int (fv1 (p4 &&& (3 : Int32)) (2 : Int32))), .val (.int (fv1 ((p4 >>> ((2 : Int32) &&& 31)) &&& (3 : Int32)) (2 : Int32))), .val (.int (fv1 ((p4 >>> ((4 : Int32) &&& 31)) &&& (3 : Int32)) (2 : Int32))), .val (.int (0 : Int32)), .val (.ref b8), .val (.ref b9), .val .null, .val (.ref b10), .val (.ref b10), .val (.int (1 : Int32))] [(.int (1 : Int32))])) _
    refine XS.istore X22.here hx rfl (hb hby at_216) rfl (l' := #[.val (.int p1), .val (.int p2), .val (.int p3), .val (.int p4), .val (.int (fv1 (p4 &&& (3 : Int32)) (2 : Int32))), .val (.int (fv1 ((p4 >>> ((2 : Int32) &&& 31)) &&& (3 : Int32)) (2 : Int32))), .val (.int (fv1 ((p4 >>> ((4 : Int32) &&& 31)) &&& (3 : Int32)) (2 : Int32))), .val (.int (0 : Int32)), .val (.ref b8), .val (.ref b9), .val .null, .val (.ref b10), .val (.ref b10), .val (.int (1 : Int32))]) rfl ?_
    show Steps p.tables e below (T22.setTop (mkF m 218 #[.val (.int p1), .val (.int p2), .val (.int p3), .val (.int p4), .val (.int (fv1 (p4 &&& (3 : Int32)) (2 : Int32))), .val (.int (fv1 ((p4 >>> ((2 : Int32) &&& 31)) &&& (3 : Int32)) (2 : Int32))), .val (.int (fv1 ((p4 >>> ((4 : Int32) &&& 31)) &&& (3 : Int32)) (2 : Int32))), .val (.int (0 : Int32)), .val (.ref b8), .val (.ref b9), .val .null, .val (.ref b10), .val (.ref b10), .val (.int (1 : Int32))] [])) _
    refine XS.iload X22.here hx rfl (hb hby at_218) rfl ?_
    show Steps p.tables e below (T22.setTop (mkF m 220 #[.val (.int p1), .val (.int p2), .val (.int p3), .val (.int p4), .val (.int (fv1 (p4 &&& (3 : Int32)) (2 : Int32))), .val (.int (fv1 ((p4 >>> ((2 : Int32) &&& 31)) &&& (3 : Int32)) (2 : Int32))), .val (.int (fv1 ((p4 >>> ((4 : Int32) &&& 31)) &&& (3 : Int32)) (2 : Int32))), .val (.int (0 : Int32)), .val (.ref b8), .val (.ref b9), .val .null, .val (.ref b10), .val (.ref b10), .val (.int (1 : Int32))] [(.int (1 : Int32))])) _
    exact retN X22 hx (t := .boolean) Bd.returns (by simp) (hb hby at_220) hr
  · show QF n0 _ T22.heap _
    rw [eh22]
    exact ⟨rfl, N22, trivial⟩
set_option maxRecDepth 65536 in
set_option maxHeartbeats 40000000 in
theorem rm0 (l : Launch) (Z : State) (a0 : Array Value) (hw : ∀ d ∈ tables_1, d.before a0 Z = true) (ws : List Jvm.Cond) (p1 : Int32) (p2 : Int32) (p3 : Int32) (p4 : Int32) (h0 : Heap) (n0 : Nat) (Z0 : n0 ≤ h0.size) :
    MetFree l x (head1 (Jvm.Cond.code x code maxLocals ret :: ws) room_1) (fun a U => a = #[(.int p1), (.int p2), (.int p3), (.int p4)] ∧ Z.Warmed39 U.vm ∧ U.heap = h0) (fun _ _ _ _ _ => True) (fun _ U o U' => ∃ v L, o = .returned v ∧ QF n0 v U'.heap L ∧ FrameEnd U o U' L room_1.cells room_1.slots) := by
  by_cases hc37 : ((p4 >>> ((6 : Int32) &&& 31)) &&& (1 : Int32)) = (0 : Int32)
  · exact rm0_none l Z a0 hw ws p1 p2 p3 p4 h0 n0 Z0 hc37 (by decide) (by decide) (by decide) (by decide) (by decide)
  · exact rm0_body l Z a0 hw ws p1 p2 p3 p4 h0 n0 Z0 hc37 (by decide) (by decide) (by decide) (by decide) (by decide) (by decide) (by decide)
-- 5. FROM THE CASE'S WORDS TO rm0, AND THE OWED THEOREMS
set_option maxRecDepth 65536 in
set_option maxHeartbeats 40000000 in
theorem comes_1 {Post : Tables → Env → Array Value → State → Outcome → State → Prop} (hpost : ∀ tb e args s v u, (limb_1_1.after args s (.returned v) u = true ∧ limb_1_2.after args s (.returned v) u = true ∧ True) → FrameEnd s (.returned v) u (Jvm.fieldLocs frame_1_writes args s ++ Jvm.arrayLocs frame_1_arrays args s ++ Jvm.staticLocs frame_1_statics s) 24 128 → Post tb e args s (.returned v) u) :
    ArmFor flags0 classFile x code maxLocals ret World_1 tables_1 room_1 Calls_1 rest_1 Pre_1 Post := by
  intro l hfl _ _ p e ha hc hk s m args below hf hA hF happ hP
  obtain ⟨hcalls, hrest, hpre⟩ := hP
  obtain ⟨-, -, -, hnamed, -, -, -, hat⟩ := (Spec.applies_iff hf).mp happ
  obtain ⟨hg, hn⟩ := and_e (Cond.before_iff.mp (show (Jvm.Cond.and given_1 narrow_1).before args s = true from hpre))
  obtain ⟨g23, g24⟩ := and_e hg
  obtain ⟨g25, g26⟩ := and_e g24
  obtain ⟨g27, g28⟩ := and_e g26
  obtain ⟨g29, g30⟩ := and_e g28
  obtain ⟨w0, w1, w2, w3, rfl⟩ : ∃ w0 w1 w2 w3 : Value, args = #[w0, w1, w2, w3] := by
    have hs : args.size = 4 := by simpa [Cond.value, given_1] using g23
    obtain ⟨L⟩ := args
    match L, hs with
    | [w0, w1, w2, w3], _ => exact ⟨w0, w1, w2, w3, rfl⟩
  have hw := fun d (hd : d ∈ tables_1) => atoms_spec (ws := Jvm.Cond.code x code maxLocals ret :: tables_1) hat d (List.mem_cons_of_mem _ hd)
  have hfit : Fit s := fun {y c} hc i hi => by
    obtain ⟨ha, rfl⟩ := Array.getElem?_eq_some_iff.mp hc
    have q := List.all_eq_true.mp ((Array.all_eq_true_iff_forall_mem.mp hF) _ (Array.getElem_mem ha)) i (List.mem_range.mpr hi)
    simpa [Array.getElem?_eq_getElem hi] using q
  obtain ⟨i0, ei0⟩ := is_v g25
  obtain rfl : w0 = (.int i0) := Option.some.inj ei0
  obtain ⟨i1, ei1⟩ := is_v g27
  obtain rfl : w1 = (.int i1) := Option.some.inj ei1
  obtain ⟨i2, ei2⟩ := is_v g29
  obtain rfl : w2 = (.int i2) := Option.some.inj ei2
  obtain ⟨i3, ei3⟩ := is_v g30
  obtain rfl : w3 = (.int i3) := Option.some.inj ei3
  obtain ⟨n, o, h1, h2, h3, _, L, rfl, ⟨rfl, N, _⟩, hq⟩ := rm0 l s _ hw tables_1 i0 i1 i2 i3 s.heap s.heap.size (Nat.le_refl _) p e ha hc hk s m _ below hf ((Spec.applies_iff_loose hf).mp happ).1 ⟨rfl, State.Warmed39.refl s, rfl⟩ trivial
  refine ⟨n, _, h1, h2, h3, hpost _ _ _ _ _ _ ⟨Cond.after_iff.mpr rfl, Cond.after_iff.mpr (eq_i res_at (Term.int_eval (1)) rfl), trivial⟩ ⟨hq.1, hq.2.1, (hq.2.2.sift fun y hy => Or.inr (N y hy)).mono (by decide) (by decide)⟩⟩
theorem main_1_1 : Claimed_1_1 := comes_1 fun _ _ _ _ _ _ h hF => ⟨h.1, hF⟩
theorem main_1_2 : Claimed_1_2 := comes_1 fun _ _ _ _ _ _ h hF => ⟨h.2.1, hF⟩
end Jvm.Pilot.@@N@@
namespace Jvm.Pilot.@@N@@
open Jvm Jvm.ClassFile Sem Op Lib Jvm.Free Jvm.Stand Jvm.Pilot.@@N@@.Jvm.D
/-! MADE BY PROGRAM (witnessworld.py) out of the Statement's table words and the real class files: 11 classes; the members and pool entries that the words name. The judged class is class 1, her method 3. -/
namespace start1
open Jvm.ClassFile
def u (s : String) : CpInfo := .utf8 (stringToUtf16 s)
/-- a pool by its gaps: so many unusable entries, then the entry; so many at the end -/
def gap : Nat → List CpInfo → List CpInfo
  | 0, r => r
  | n + 1, r => .unusable :: gap n r
def poolList (es : List (Nat × CpInfo)) (last : Nat) : List CpInfo := es.foldr (fun e r => gap e.1 (e.2 :: r)) (gap last [])
def pool (es : List (Nat × CpInfo)) (last : Nat) : Array CpInfo := ⟨poolList es last⟩
def fileOf (pool : Array CpInfo) (this : Nat) (attrs : Array Attribute := #[]) (ms : Array MethodInfo := #[]) (fl : Nat := 33) (sup : Nat := 0) (ifs : Array Nat := #[]) (fds : Array FieldInfo := #[]) : ClassFile where
  minorVersion := 0
  majorVersion := 65
  constantPool := pool
  accessFlags := fl
  thisClass := this
  superClass := sup
  interfaces := ifs
  fields := fds
  methods := ms
  attributes := attrs
def plain (name : String) (sup : Option ClassId) : Class where
  name := name
  kind := .ordinary
  loader := none
  accessFlags := 33
  super := sup
  interfaces := #[]
  cf := none
  fields := #[]
  methods := #[]
  instanceTypes := #[]
  staticTypes := #[]
  resolved := #[]
  callSites := []
  init := .initialized
  statics := none
  mirror := none

def pool0 : Array CpInfo := pool [(5, u "<init>"), (0, u "()V"), (1, .class_ 10), (1, u "java/lang/Object")] 113

def k0c0 : Code := { maxStack := 0, maxLocals := 1, code := object_method_1_code, exceptionTable := #[], attributes := #[] }
def k0m0 : Method := { name := "<init>", desc := "()V", sig := { parameters := [], returnType := none }, accessFlags := 1, code := some k0c0 }
/-- java/lang/Object -/
def k0 : Class := { plain "java/lang/Object" none with
  accessFlags := 33
  interfaces := #[]
  cf := some (fileOf pool0 8 #[] #[{ accessFlags := 1, nameIndex := 5, descriptorIndex := 6, attributes := #[] }] 33 0 #[] #[])
  fields := #[]
  methods := #[k0m0]
  instanceTypes := #[]
  staticTypes := #[]
  resolved := Array.replicate 124 none
  statics := none }

def pool1 : Array CpInfo := pool [(2, .class_ 4), (1, u "java/lang/Object"), (0, u "<init>"), (0, u "()V"), (0, .methodref 8 9), (0, .class_ 10), (0, .nameAndType 11 12), (0, u "java/lang/Math"), (0, u "min"), (0, u "(II)I"), (0, .methodref 14 15), (0, .class_ 16), (0, .nameAndType 17 18), (0, u "com/example/courteous_crawler/courteouscrawler/core/WireCopyWithoutBodyPinLaw"), (0, u "make"), (0, u "(II)[B"), (0, .class_ 20), (0, u "com/example/courteous_crawler/courteouscrawler/core/WireCopy"), (0, .methodref 19 22), (0, .nameAndType 5 23), (0, u "([B[B[B)V"), (0, .methodref 19 25), (0, .nameAndType 26 27), (0, u "withoutBody"), (0, u "()Lcom/example/courteous_crawler/courteouscrawler/core/WireCopy;"), (0, .methodref 19 29), (0, .nameAndType 30 31), (0, u "framedBody"), (0, u "()[B"), (0, .methodref 19 33), (0, .nameAndType 34 31), (0, u "request"), (0, .methodref 14 36), (0, .nameAndType 37 38), (0, u "same"), (0, u "([BII)Z"), (0, .methodref 19 40), (0, .nameAndType 41 31), (0, u "head"), (5, u "law"), (0, u "(IIII)Z")] 2

def k1m0 : Method := { name := "<init>", desc := "()V", sig := { parameters := [], returnType := none }, accessFlags := 1, code := none }
def k1c1 : Code := { maxStack := 4, maxLocals := 3, code := method_2_code, exceptionTable := #[], attributes := #[] }
def k1m1 : Method := { name := "make", desc := "(II)[B", sig := { parameters := [.int, .int], returnType := some (.array .byte) }, accessFlags := 10, code := some k1c1 }
def k1c2 : Code := { maxStack := 3, maxLocals := 3, code := method_3_code, exceptionTable := #[], attributes := #[] }
def k1m2 : Method := { name := "same", desc := "([BII)Z", sig := { parameters := [(.array .byte), .int, .int], returnType := some .boolean }, accessFlags := 10, code := some k1c2 }
def k1c3 : Code := { maxStack := 5, maxLocals := 14, code := code, exceptionTable := #[], attributes := #[] }
def k1m3 : Method := { name := "law", desc := "(IIII)Z", sig := { parameters := [.int, .int, .int, .int], returnType := some .boolean }, accessFlags := 9, code := some k1c3 }
/-- com/example/courteous_crawler/courteouscrawler/core/WireCopyWithoutBodyPinLaw -/
def k1 : Class := { plain "com/example/courteous_crawler/courteouscrawler/core/WireCopyWithoutBodyPinLaw" (some 0) with
  accessFlags := 49
  interfaces := #[]
  cf := some (fileOf pool1 14 #[] #[{ accessFlags := 1, nameIndex := 5, descriptorIndex := 6, attributes := #[] }, { accessFlags := 10, nameIndex := 17, descriptorIndex := 18, attributes := #[] }, { accessFlags := 10, nameIndex := 37, descriptorIndex := 38, attributes := #[] }, { accessFlags := 9, nameIndex := 47, descriptorIndex := 48, attributes := #[] }] 49 2 #[] #[])
  fields := #[]
  methods := #[k1m0, k1m1, k1m2, k1m3]
  instanceTypes := #[]
  staticTypes := #[]
  resolved := Array.replicate 51 none
  statics := none }

def pool2 : Array CpInfo := pool [(1, .class_ 2), (0, u "java/lang/Math"), (1, .class_ 6), (1, u "java/lang/Object"), (0, u "<init>"), (0, u "()V"), (89, .class_ 100), (1, u "java/lang/Math$RandomNumberGeneratorHolder"), (71, u "negativeZeroFloatBits"), (0, u "J"), (2, u "negativeZeroDoubleBits"), (24, u "min"), (43, u "$assertionsDisabled"), (0, u "Z"), (88, u "(II)I"), (2, u "twoToTheDoubleScaleDown"), (0, u "D"), (4, u "twoToTheDoubleScaleUp"), (9, u "E"), (3, u "PI"), (2, u "TAU"), (2, u "DEGREES_TO_RADIANS"), (0, u "RADIANS_TO_DEGREES")] 94

def k2m0 : Method := { name := "<init>", desc := "()V", sig := { parameters := [], returnType := none }, accessFlags := 2, code := none }
def k2c1 : Code := { maxStack := 2, maxLocals := 2, code := jdk_29_method_69_code, exceptionTable := #[], attributes := #[] }
def k2m1 : Method := { name := "min", desc := "(II)I", sig := { parameters := [.int, .int], returnType := some .int }, accessFlags := 9, code := some k2c1 }
/-- java/lang/Math -/
def k2 : Class := { plain "java/lang/Math" (some 0) with
  accessFlags := 49
  interfaces := #[]
  cf := some (fileOf pool2 1 #[.nestMembers #[98]] #[{ accessFlags := 2, nameIndex := 7, descriptorIndex := 8, attributes := #[] }, { accessFlags := 9, nameIndex := 201, descriptorIndex := 335, attributes := #[] }] 49 4 #[] #[{ accessFlags := 25, nameIndex := 354, descriptorIndex := 339, attributes := #[] }, { accessFlags := 25, nameIndex := 358, descriptorIndex := 339, attributes := #[] }, { accessFlags := 25, nameIndex := 361, descriptorIndex := 339, attributes := #[] }, { accessFlags := 26, nameIndex := 364, descriptorIndex := 339, attributes := #[] }, { accessFlags := 26, nameIndex := 365, descriptorIndex := 339, attributes := #[] }, { accessFlags := 26, nameIndex := 172, descriptorIndex := 173, attributes := #[] }, { accessFlags := 26, nameIndex := 176, descriptorIndex := 173, attributes := #[] }, { accessFlags := 8, nameIndex := 344, descriptorIndex := 339, attributes := #[] }, { accessFlags := 8, nameIndex := 338, descriptorIndex := 339, attributes := #[] }, { accessFlags := 4120, nameIndex := 245, descriptorIndex := 246, attributes := #[] }])
  fields := #[{ name := "E", type := .double, accessFlags := 25, slot := 0, constantValue := 0 }, { name := "PI", type := .double, accessFlags := 25, slot := 1, constantValue := 0 }, { name := "TAU", type := .double, accessFlags := 25, slot := 2, constantValue := 0 }, { name := "DEGREES_TO_RADIANS", type := .double, accessFlags := 26, slot := 3, constantValue := 0 }, { name := "RADIANS_TO_DEGREES", type := .double, accessFlags := 26, slot := 4, constantValue := 0 }, { name := "negativeZeroFloatBits", type := .long, accessFlags := 26, slot := 5, constantValue := 0 }, { name := "negativeZeroDoubleBits", type := .long, accessFlags := 26, slot := 6, constantValue := 0 }, { name := "twoToTheDoubleScaleUp", type := .double, accessFlags := 8, slot := 7, constantValue := 0 }, { name := "twoToTheDoubleScaleDown", type := .double, accessFlags := 8, slot := 8, constantValue := 0 }, { name := "$assertionsDisabled", type := .boolean, accessFlags := 4120, slot := 9, constantValue := 0 }]
  methods := #[k2m0, k2m1]
  instanceTypes := #[]
  staticTypes := #[.double, .double, .double, .double, .double, .long, .long, .double, .double, .boolean]
  resolved := Array.replicate 460 none
  statics := none }

def pool3 : Array CpInfo := pool [(1, .methodref 2 3), (0, .class_ 4), (0, .nameAndType 5 6), (0, u "java/lang/Object"), (0, u "<init>"), (0, u "()V"), (0, .class_ 8), (0, u "java/lang/Record")] 13

def k3c0 : Code := { maxStack := 1, maxLocals := 1, code := jdk_30_method_1_code, exceptionTable := #[], attributes := #[] }
def k3m0 : Method := { name := "<init>", desc := "()V", sig := { parameters := [], returnType := none }, accessFlags := 4, code := some k3c0 }
/-- java/lang/Record -/
def k3 : Class := { plain "java/lang/Record" (some 0) with
  accessFlags := 1057
  interfaces := #[]
  cf := some (fileOf pool3 7 #[] #[{ accessFlags := 4, nameIndex := 5, descriptorIndex := 6, attributes := #[] }] 1057 2 #[] #[])
  fields := #[]
  methods := #[k3m0]
  instanceTypes := #[]
  staticTypes := #[]
  resolved := Array.replicate 22 none
  statics := none }

def pool4 : Array CpInfo := pool [(1, .methodref 2 3), (0, .class_ 4), (0, .nameAndType 5 6), (0, u "java/lang/Record"), (0, u "<init>"), (0, u "()V"), (0, .fieldref 8 9), (0, .class_ 10), (0, .nameAndType 11 12), (0, u "com/example/courteous_crawler/courteouscrawler/core/WireCopy"), (0, u "request"), (0, u "[B"), (0, .fieldref 8 14), (0, .nameAndType 15 12), (0, u "head"), (0, .fieldref 8 17), (0, .nameAndType 18 12), (0, u "framedBody"), (0, .methodref 8 20), (0, .nameAndType 5 21), (0, u "([B[B[B)V"), (14, u "NONE"), (0, u "Lcom/example/courteous_crawler/courteouscrawler/core/WireCopy;"), (3, u "withoutBody"), (0, u "()Lcom/example/courteous_crawler/courteouscrawler/core/WireCopy;"), (4, u "()[B")] 23

def k4c0 : Code := { maxStack := 2, maxLocals := 4, code := prog_43_method_1_code, exceptionTable := #[], attributes := #[] }
def k4m0 : Method := { name := "<init>", desc := "([B[B[B)V", sig := { parameters := [(.array .byte), (.array .byte), (.array .byte)], returnType := none }, accessFlags := 1, code := some k4c0 }
def k4c1 : Code := { maxStack := 5, maxLocals := 1, code := prog_43_method_2_code, exceptionTable := #[], attributes := #[] }
def k4m1 : Method := { name := "withoutBody", desc := "()Lcom/example/courteous_crawler/courteouscrawler/core/WireCopy;", sig := { parameters := [], returnType := some (.object "com/example/courteous_crawler/courteouscrawler/core/WireCopy") }, accessFlags := 1, code := some k4c1 }
def k4c2 : Code := { maxStack := 1, maxLocals := 1, code := prog_43_method_6_code, exceptionTable := #[], attributes := #[] }
def k4m2 : Method := { name := "request", desc := "()[B", sig := { parameters := [], returnType := some (.array .byte) }, accessFlags := 1, code := some k4c2 }
def k4c3 : Code := { maxStack := 1, maxLocals := 1, code := prog_43_method_7_code, exceptionTable := #[], attributes := #[] }
def k4m3 : Method := { name := "head", desc := "()[B", sig := { parameters := [], returnType := some (.array .byte) }, accessFlags := 1, code := some k4c3 }
def k4c4 : Code := { maxStack := 1, maxLocals := 1, code := prog_43_method_8_code, exceptionTable := #[], attributes := #[] }
def k4m4 : Method := { name := "framedBody", desc := "()[B", sig := { parameters := [], returnType := some (.array .byte) }, accessFlags := 1, code := some k4c4 }
/-- com/example/courteous_crawler/courteouscrawler/core/WireCopy -/
def k4 : Class := { plain "com/example/courteous_crawler/courteouscrawler/core/WireCopy" (some 3) with
  accessFlags := 49
  interfaces := #[]
  cf := some (fileOf pool4 8 #[] #[{ accessFlags := 1, nameIndex := 5, descriptorIndex := 21, attributes := #[] }, { accessFlags := 1, nameIndex := 41, descriptorIndex := 42, attributes := #[] }, { accessFlags := 1, nameIndex := 11, descriptorIndex := 47, attributes := #[] }, { accessFlags := 1, nameIndex := 15, descriptorIndex := 47, attributes := #[] }, { accessFlags := 1, nameIndex := 18, descriptorIndex := 47, attributes := #[] }] 49 2 #[] #[{ accessFlags := 18, nameIndex := 11, descriptorIndex := 12, attributes := #[] }, { accessFlags := 18, nameIndex := 15, descriptorIndex := 12, attributes := #[] }, { accessFlags := 18, nameIndex := 18, descriptorIndex := 12, attributes := #[] }, { accessFlags := 25, nameIndex := 36, descriptorIndex := 37, attributes := #[] }])
  fields := #[{ name := "request", type := (.array .byte), accessFlags := 18, slot := 0, constantValue := 0 }, { name := "head", type := (.array .byte), accessFlags := 18, slot := 1, constantValue := 0 }, { name := "framedBody", type := (.array .byte), accessFlags := 18, slot := 2, constantValue := 0 }, { name := "NONE", type := (.object "com/example/courteous_crawler/courteouscrawler/core/WireCopy"), accessFlags := 25, slot := 0, constantValue := 0 }]
  methods := #[k4m0, k4m1, k4m2, k4m3, k4m4]
  instanceTypes := #[(.array .byte), (.array .byte), (.array .byte)]
  staticTypes := #[(.object "com/example/courteous_crawler/courteouscrawler/core/WireCopy")]
  resolved := Array.replicate 71 none
  statics := none }

def pool5 : Array CpInfo := pool [(1, u "java/lang/Cloneable"), (0, .class_ 1), (0, u "java/lang/Object"), (0, .class_ 3)] 3

/-- java/lang/Cloneable -/
def k5 : Class := { plain "java/lang/Cloneable" (some 0) with
  accessFlags := 1537
  interfaces := #[]
  cf := some (fileOf pool5 2 #[] #[] 1537 4 #[] #[])
  fields := #[]
  methods := #[]
  instanceTypes := #[]
  staticTypes := #[]
  resolved := Array.replicate 8 none
  statics := none }

def pool6 : Array CpInfo := pool [(1, u "java/io/Serializable"), (0, .class_ 1), (0, u "java/lang/Object"), (0, .class_ 3)] 3

/-- java/io/Serializable -/
def k6 : Class := { plain "java/io/Serializable" (some 0) with
  accessFlags := 1537
  interfaces := #[]
  cf := some (fileOf pool6 2 #[] #[] 1537 4 #[] #[])
  fields := #[]
  methods := #[]
  instanceTypes := #[]
  staticTypes := #[]
  resolved := Array.replicate 8 none
  statics := none }

/-- the primitive byte -/
def k7 : Class := { plain "byte" none with kind := .primitive 'B', accessFlags := 0x411 }
/-- [B -/
def k8 : Class := { plain "[B" (some 0) with kind := .array 7 .byte, interfaces := #[5, 6], accessFlags := 1041 }

/-- the primitive int -/
def k9 : Class := { plain "int" none with kind := .primitive 'I', accessFlags := 0x411 }
/-- [I -/
def k10 : Class := { plain "[I" (some 0) with kind := .array 9 .int, interfaces := #[5, 6], accessFlags := 1041 }

def heap : Heap := #[]
def classes : Array Class := #[k0, k1, k2, k3, k4, k5, k6, k7, k8, k9, k10]
def interned : List (Array UInt16 × Addr) := []
def slotsUsed : Nat := 0
def theMethod : MethodId := ⟨1, 3⟩
def args0 : Array Value := #[.int 5, .int 300, .int 2, .int 70]
def aboutOver (below : List Frame) : State where
  vm := { classes := classes, interned := interned.toArray }
  heap := heap
  slotsUsed := slotsUsed
  threads := #[{ frames := .invoking theMethod args0 :: below }]
def below0 : List Frame := [.native { method := ⟨0, 0⟩, args := #[] }]
def about1 : State := aboutOver below0
def p0 : Program := .bare "" "" ""
def e0 : Env := launch0.env 0 0 0
theorem w_frames : about1.frames = Frame.invoking theMethod args0 :: below0 := rfl
set_option maxRecDepth 65536 in
theorem w_args : argsFit about1.vm theMethod args0 = true := by decide +kernel
set_option maxRecDepth 65536 in
theorem w_heap : heapFits about1 = true := by decide +kernel
set_option maxRecDepth 65536 in
theorem w_runnable : about1.curStatus? = some .runnable := by decide +kernel
set_option maxRecDepth 65536 in
theorem w_alone : about1.alone = true := by decide +kernel
set_option maxRecDepth 65536 in
theorem w_named : about1.methodNamed? x = some theMethod := by decide +kernel
set_option maxRecDepth 65536 in
theorem w_hears : about1.hears theMethod below0 = true := by decide +kernel
set_option maxRecDepth 65536 in
theorem w_ripe : about1.ripe theMethod args0 below0 = true := by decide +kernel
theorem w_running : about1.status = .running := rfl
set_option maxRecDepth 65536 in
theorem w_room : about1.hasRoom e0.platform room_1 = true :=
  launch0.hasRoom_least _ room_1 (by decide +kernel) (by decide +kernel) (by decide +kernel) (by decide +kernel) (by decide +kernel) (by decide +kernel)
theorem allAtoms_all (ts : List Jvm.Cond) (a : Array Jvm.Value) (st : Jvm.State) : (allAtoms ts).before a st = ts.all (fun c => c.before a st) := by
  induction ts with
  | nil => rfl
  | cons c t ih =>
    show (Jvm.Cond.and c (allAtoms t)).before a st = _
    rw [Jvm.Cond.before_and, ih, List.all_cons]
def words1 : List Jvm.Cond := Jvm.Cond.code x code maxLocals ret :: tables_1
/-- a 'code' word, met by the world's own term for the bytes: nothing is compared byte by byte -/
theorem code_word {y : MethodName} {bytes : ByteArray} {mx : Nat} {rt : Option FieldType} {a : Array Value} {s : State} {m : MethodId} {meth : Method} {c : Code} (h1 : s.methodNamed? y = some m) (h2 : s.vm.method? m = some meth) (h3 : meth.code = some c) (h4 : c.code = bytes)
    (h5 : (c.maxLocals == mx && c.exceptionTable.isEmpty && decide (c.maxStack ≤ mostOperands) && decide (meth.sig.returnType = rt) && !meth.locks && decide (parseMethodDescriptor y.desc = some meth.sig)) = true) : (Jvm.Cond.code y bytes mx rt).before a s = true := by
  simp only [Bool.and_eq_true, beq_iff_eq, Bool.not_eq_true', decide_eq_true_eq] at h5
  obtain ⟨⟨⟨⟨⟨g1, g2⟩, g3⟩, g4⟩, g5⟩, g6⟩ := h5
  simp [Cond.before, Cond.holds, Cond.value, h1, h2, h3, h4, g1, g2, g3, g4, g5, g6]
def isCode : Jvm.Cond → Bool
  | .code _ _ _ _ => true
  | _ => false
theorem all_split {L : List Jvm.Cond} {P : Jvm.Cond → Bool} (h1 : L.all (fun c => isCode c || P c) = true) (h2 : ∀ c ∈ L.filter isCode, P c = true) : L.all P = true := by
  refine List.all_eq_true.mpr fun c hc => ?_
  have h := List.all_eq_true.mp h1 c hc
  rcases Bool.eq_false_or_eq_true (isCode c) with hi | hi
  · exact h2 c (List.mem_filter.mpr ⟨hc, hi⟩)
  · simpa [hi] using h
set_option maxRecDepth 65536 in
theorem w_c0 : (Jvm.Cond.code x code maxLocals ret).before args0 about1 = true := code_word (m := ⟨1, 3⟩) (meth := k1m3) (c := k1c3) (by decide +kernel) rfl rfl rfl (by decide +kernel)
set_option maxRecDepth 65536 in
theorem w_c1 : (Jvm.Cond.code ({ cls := "java/lang/Math", name := "min", desc := "(II)I" } : Jvm.MethodName) jdk_29_method_69_code (2 : Nat) (Option.some Jvm.ClassFile.FieldType.int)).before args0 about1 = true := code_word (m := ⟨2, 1⟩) (meth := k2m1) (c := k2c1) (by decide +kernel) rfl rfl rfl (by decide +kernel)
set_option maxRecDepth 65536 in
theorem w_c2 : (Jvm.Cond.code ({ cls := "com/example/courteous_crawler/courteouscrawler/core/WireCopyWithoutBodyPinLaw", name := "make", desc := "(II)[B" } : Jvm.MethodName) method_2_code (3 : Nat) (Option.some (Jvm.ClassFile.FieldType.array Jvm.ClassFile.FieldType.byte))).before args0 about1 = true := code_word (m := ⟨1, 1⟩) (meth := k1m1) (c := k1c1) (by decide +kernel) rfl rfl rfl (by decide +kernel)
set_option maxRecDepth 65536 in
theorem w_c3 : (Jvm.Cond.code ({ cls := "com/example/courteous_crawler/courteouscrawler/core/WireCopy", name := "<init>", desc := "([B[B[B)V" } : Jvm.MethodName) prog_43_method_1_code (4 : Nat) (Option.none : Option Jvm.ClassFile.FieldType)).before args0 about1 = true := code_word (m := ⟨4, 0⟩) (meth := k4m0) (c := k4c0) (by decide +kernel) rfl rfl rfl (by decide +kernel)
set_option maxRecDepth 65536 in
theorem w_c4 : (Jvm.Cond.code ({ cls := "java/lang/Record", name := "<init>", desc := "()V" } : Jvm.MethodName) jdk_30_method_1_code (1 : Nat) (Option.none : Option Jvm.ClassFile.FieldType)).before args0 about1 = true := code_word (m := ⟨3, 0⟩) (meth := k3m0) (c := k3c0) (by decide +kernel) rfl rfl rfl (by decide +kernel)
set_option maxRecDepth 65536 in
theorem w_c5 : (Jvm.Cond.code ({ cls := "java/lang/Object", name := "<init>", desc := "()V" } : Jvm.MethodName) object_method_1_code (1 : Nat) (Option.none : Option Jvm.ClassFile.FieldType)).before args0 about1 = true := code_word (m := ⟨0, 0⟩) (meth := k0m0) (c := k0c0) (by decide +kernel) rfl rfl rfl (by decide +kernel)
set_option maxRecDepth 65536 in
theorem w_c6 : (Jvm.Cond.code ({ cls := "com/example/courteous_crawler/courteouscrawler/core/WireCopy", name := "withoutBody", desc := "()Lcom/example/courteous_crawler/courteouscrawler/core/WireCopy;" } : Jvm.MethodName) prog_43_method_2_code (1 : Nat) (Option.some (Jvm.ClassFile.FieldType.object "com/example/courteous_crawler/courteouscrawler/core/WireCopy"))).before args0 about1 = true := code_word (m := ⟨4, 1⟩) (meth := k4m1) (c := k4c1) (by decide +kernel) rfl rfl rfl (by decide +kernel)
set_option maxRecDepth 65536 in
theorem w_c7 : (Jvm.Cond.code ({ cls := "com/example/courteous_crawler/courteouscrawler/core/WireCopy", name := "framedBody", desc := "()[B" } : Jvm.MethodName) prog_43_method_8_code (1 : Nat) (Option.some (Jvm.ClassFile.FieldType.array Jvm.ClassFile.FieldType.byte))).before args0 about1 = true := code_word (m := ⟨4, 4⟩) (meth := k4m4) (c := k4c4) (by decide +kernel) rfl rfl rfl (by decide +kernel)
set_option maxRecDepth 65536 in
theorem w_c8 : (Jvm.Cond.code ({ cls := "com/example/courteous_crawler/courteouscrawler/core/WireCopy", name := "request", desc := "()[B" } : Jvm.MethodName) prog_43_method_6_code (1 : Nat) (Option.some (Jvm.ClassFile.FieldType.array Jvm.ClassFile.FieldType.byte))).before args0 about1 = true := code_word (m := ⟨4, 2⟩) (meth := k4m2) (c := k4c2) (by decide +kernel) rfl rfl rfl (by decide +kernel)
set_option maxRecDepth 65536 in
theorem w_c9 : (Jvm.Cond.code ({ cls := "com/example/courteous_crawler/courteouscrawler/core/WireCopyWithoutBodyPinLaw", name := "same", desc := "([BII)Z" } : Jvm.MethodName) method_3_code (3 : Nat) (Option.some Jvm.ClassFile.FieldType.boolean)).before args0 about1 = true := code_word (m := ⟨1, 2⟩) (meth := k1m2) (c := k1c2) (by decide +kernel) rfl rfl rfl (by decide +kernel)
set_option maxRecDepth 65536 in
theorem w_c10 : (Jvm.Cond.code ({ cls := "com/example/courteous_crawler/courteouscrawler/core/WireCopy", name := "head", desc := "()[B" } : Jvm.MethodName) prog_43_method_7_code (1 : Nat) (Option.some (Jvm.ClassFile.FieldType.array Jvm.ClassFile.FieldType.byte))).before args0 about1 = true := code_word (m := ⟨4, 3⟩) (meth := k4m3) (c := k4c3) (by decide +kernel) rfl rfl rfl (by decide +kernel)
def codes1 : List Jvm.Cond := [Jvm.Cond.code x code maxLocals ret, Jvm.Cond.code ({ cls := "java/lang/Math", name := "min", desc := "(II)I" } : Jvm.MethodName) jdk_29_method_69_code (2 : Nat) (Option.some Jvm.ClassFile.FieldType.int), Jvm.Cond.code ({ cls := "com/example/courteous_crawler/courteouscrawler/core/WireCopyWithoutBodyPinLaw", name := "make", desc := "(II)[B" } : Jvm.MethodName) method_2_code (3 : Nat) (Option.some (Jvm.ClassFile.FieldType.array Jvm.ClassFile.FieldType.byte)), Jvm.Cond.code ({ cls := "com/example/courteous_crawler/courteouscrawler/core/WireCopy", name := "<init>", desc := "([B[B[B)V" } : Jvm.MethodName) prog_43_method_1_code (4 : Nat) (Option.none : Option Jvm.ClassFile.FieldType), Jvm.Cond.code ({ cls := "java/lang/Record", name := "<init>", desc := "()V" } : Jvm.MethodName) jdk_30_method_1_code (1 : Nat) (Option.none : Option Jvm.ClassFile.FieldType), Jvm.Cond.code ({ cls := "java/lang/Object", name := "<init>", desc := "()V" } : Jvm.MethodName) object_method_1_code (1 : Nat) (Option.none : Option Jvm.ClassFile.FieldType), Jvm.Cond.code ({ cls := "com/example/courteous_crawler/courteouscrawler/core/WireCopy", name := "withoutBody", desc := "()Lcom/example/courteous_crawler/courteouscrawler/core/WireCopy;" } : Jvm.MethodName) prog_43_method_2_code (1 : Nat) (Option.some (Jvm.ClassFile.FieldType.object "com/example/courteous_crawler/courteouscrawler/core/WireCopy")), Jvm.Cond.code ({ cls := "com/example/courteous_crawler/courteouscrawler/core/WireCopy", name := "framedBody", desc := "()[B" } : Jvm.MethodName) prog_43_method_8_code (1 : Nat) (Option.some (Jvm.ClassFile.FieldType.array Jvm.ClassFile.FieldType.byte)), Jvm.Cond.code ({ cls := "com/example/courteous_crawler/courteouscrawler/core/WireCopy", name := "request", desc := "()[B" } : Jvm.MethodName) prog_43_method_6_code (1 : Nat) (Option.some (Jvm.ClassFile.FieldType.array Jvm.ClassFile.FieldType.byte)), Jvm.Cond.code ({ cls := "com/example/courteous_crawler/courteouscrawler/core/WireCopyWithoutBodyPinLaw", name := "same", desc := "([BII)Z" } : Jvm.MethodName) method_3_code (3 : Nat) (Option.some Jvm.ClassFile.FieldType.boolean), Jvm.Cond.code ({ cls := "com/example/courteous_crawler/courteouscrawler/core/WireCopy", name := "head", desc := "()[B" } : Jvm.MethodName) prog_43_method_7_code (1 : Nat) (Option.some (Jvm.ClassFile.FieldType.array Jvm.ClassFile.FieldType.byte))]
set_option maxRecDepth 65536 in
theorem codes_eq : words1.filter isCode = codes1 := rfl
theorem w_codes : ∀ c ∈ words1.filter isCode, c.before args0 about1 = true := by
  rw [codes_eq]
  intro c hc
  simp only [codes1, List.mem_cons, List.not_mem_nil, or_false] at hc
  rcases hc with rfl | rfl | rfl | rfl | rfl | rfl | rfl | rfl | rfl | rfl | rfl
  · exact w_c0
  · exact w_c1
  · exact w_c2
  · exact w_c3
  · exact w_c4
  · exact w_c5
  · exact w_c6
  · exact w_c7
  · exact w_c8
  · exact w_c9
  · exact w_c10
set_option maxRecDepth 65536 in
theorem w_t1 : (words1.take 24).all (fun c => isCode c || c.before args0 about1) = true := by decide +kernel
set_option maxRecDepth 65536 in
theorem w_t2 : ((words1.drop 24).take 24).all (fun c => isCode c || c.before args0 about1) = true := by decide +kernel
set_option maxRecDepth 65536 in
theorem w_t3 : ((words1.drop 24).drop 24).all (fun c => isCode c || c.before args0 about1) = true := by decide +kernel
theorem w_tables : (allAtoms (Jvm.Cond.code x code maxLocals ret :: tables_1)).before args0 about1 = true := by
  rw [allAtoms_all]
  show words1.all (fun c => c.before args0 about1) = true
  refine all_split ?_ w_codes
  rw [← List.take_append_drop 24 words1, List.all_append, w_t1, ← List.take_append_drop 24 (words1.drop 24), List.all_append, w_t2, w_t3]
  rfl
set_option maxRecDepth 65536 in
theorem w_case : (Jvm.Cond.and given_1 narrow_1).before args0 about1 = true := by decide +kernel
theorem w_applies : (headSpec (Jvm.Cond.code x code maxLocals ret :: tables_1) room_1).applies x e0.platform about1 = true :=
  (Spec.applies_iff w_frames).mpr ⟨w_running, w_runnable, w_alone, w_named, w_hears, w_ripe, w_room, w_tables⟩
theorem atStart : AtStart classFile x code maxLocals ret World_1 tables_1 room_1 Calls_1 rest_1 Pre_1 launch0 p0 e0 about1 theMethod args0 below0 :=
  ⟨lists_1, trivial, launch0.admits_env _ _ _, launch0.least_env, fairChoices_fair.cas, fairChoices_fair.clock, w_frames, w_args, w_heap, w_applies, trivial, trivial, w_case⟩
end start1
theorem witness_1 : WitnessClaimed_1 := ⟨start1.p0, start1.e0, start1.about1, start1.theMethod, start1.args0, start1.below0, start1.atStart⟩
end Jvm.Pilot.@@N@@
