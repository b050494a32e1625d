import JvmDerived
import JvmDerived.Pilot.@@N@@Statement
import JvmDerived.Pilot.@@N@@Code
set_option linter.unusedVariables false
set_option linter.unusedSimpArgs false
namespace Jvm.RoadKit
open Sem ClassFile Op Lib Jvm.Stand Jvm.Free Jvm.LawKit
section New
variable {p : Program} {l : Launch} {e : Env} {R : Room} {s : State} {m : MethodId} {args : Array Value} {below : List Frame} {meth : Method} {c : Code} {T : State} {locs : List Loc} {cells slots : Nat}
theorem retI (X : Stand p l e R s m args below meth c T locs cells slots) (hx : p.tables.exec = Jvm.exec) {pc : Nat} {Ls : Array Slot} {z : Int32} {rest : List Value} (hret : meth.sig.returnType = some .int) (hd : decode c.code pc = .ok (.ireturn, 1)) {fs : List Frame}
    (hl : ∀ (f : JFrame) (acts : List Action), f.method = m → f.locked = none → f.entered = [] → (doReturn e (T.setTop f) acts (some (.int z))).1 = T.setFrames fs) : Steps p.tables e below (T.setTop (mkF m pc Ls (.int z :: rest))) (T.setFrames fs) := by
  have hm' : T.vm.method? m = some meth := X.method'
  have hn : narrow .int (.int z) = .int z := rfl
  show Steps p.tables e below (T.setTop { method := m, pc := pc, locals := Ls, stack := _ :: rest, locked := none }) _
  jvm_step X.here [X.here.top, hx, hd, hm', hret, hn]
  first | (intro acts; rw [hl _ acts rfl rfl rfl]) | rw [hl _ _ rfl rfl rfl]
  exact Steps.refl _
theorem retJ (X : Stand p l e R s m args below meth c T locs cells slots) (hx : p.tables.exec = Jvm.exec) {pc : Nat} {Ls : Array Slot} {z : Int64} {rest : List Value} (hret : meth.sig.returnType = some .long) (hd : decode c.code pc = .ok (.lreturn, 1)) {fs : List Frame}
    (hl : ∀ (f : JFrame) (acts : List Action), f.method = m → f.locked = none → f.entered = [] → (doReturn e (T.setTop f) acts (some (.long z))).1 = T.setFrames fs) : Steps p.tables e below (T.setTop (mkF m pc Ls (.long z :: rest))) (T.setFrames fs) := by
  have hm' : T.vm.method? m = some meth := X.method'
  have hn : narrow .long (.long z) = .long z := rfl
  show Steps p.tables e below (T.setTop { method := m, pc := pc, locals := Ls, stack := _ :: rest, locked := none }) _
  jvm_step X.here [X.here.top, hx, hd, hm', hret, hn]
  first | (intro acts; rw [hl _ acts rfl rfl rfl]) | rw [hl _ _ rfl rfl rfl]
  exact Steps.refl _
end New
end Jvm.RoadKit
namespace Jvm.Pilot.@@N@@
open Jvm Jvm.ClassFile Sem Op Lib Jvm.Free Jvm.Stand Jvm.LawKit Jvm.RoadKit Bundle Jvm.Pilot.@@N@@.Jvm.D
def QV (w : Value) (h0 : Heap) (n0 : Nat) (v : Option Value) (h : Heap) (L : List Loc) : Prop := v = some w ∧ Fr n0 L ∧ h = h0
theorem own_rem (x y : Int32) : x - (x / y) * y = x % y := by
  by_cases hy : y = -1
  · subst hy
    apply Int32.toInt_inj.mp
    have h1 := c_idivM x (-1) rfl
    have h2 := c_imul (x / -1) (-1)
    have h3 := c_isub x ((x / -1) * -1)
    have h4 := rng32 (x - (x / -1) * -1)
    have e : (-1 : Int32).toInt = -1 := rfl
    rw [Int32.toInt_mod, e]
    have q : x.toInt.tmod (-1) = 0 := by rw [Int.tmod_neg, Int.tmod_one]
    rw [q]
    rw [e] at h2
    omega
  · apply Int32.toInt_inj.mp
    have h0 := Int32.toInt_div_of_ne_right x y hy
    have h2 := c_imul (x / y) y
    have h3 := c_isub x ((x / y) * y)
    have h4 := rng32 (x - (x / y) * y)
    have h5 := rng32 (x % y)
    rw [Int32.toInt_mod] at h5 ⊢
    have h6 := Int.tmod_def x.toInt y.toInt
    rw [h0, Int.mul_comm] at h2
    omega
theorem own_irem {tb : Tables} [Ours tb] {e : Env} {below : List Frame} {T target : State} {m : MethodId} {c : Code} {g : JFrame} (h : At T m c below) (hx : tb.exec = Jvm.exec) (hg : g.method = m) {x y : Int32} {rest : List Value} (hd : decode c.code g.pc = .ok (.irem, 1)) (hs : g.stack = .int y :: .int x :: rest) (hy : y ≠ 0)
    (hr : Steps tb e below (T.setTop { g with pc := g.pc + 1, stack := .int (x % y) :: rest }) target) : Steps tb e below (T.setTop g) target :=
  XS.irem h hx hg hd hs hy (by rw [own_rem]; exact hr)
/-- the word 'selects' of a private method, out of the sheet's other words -/
theorem own_selP {Z s : State} {a0 args : Array Value} {y : MethodName} {n : Nat} (hZ : Z.Warmed39 s.vm) (wp : (Cond.privateMethod y).before a0 Z = true) (wi : (Cond.instanceMethod y).before a0 Z = true) (wk : (Cond.instantiable y.cls n).before a0 Z = true) (hy : y.cls ≠ "java/lang/invoke/MethodHandle" ∧ y.cls ≠ "java/lang/invoke/VarHandle") : (Cond.selects y.cls y y).before args s = true := by
  obtain ⟨c, k, hc, hk, -, hab, -, -⟩ := Cond.instantiable_spec (mvT (args := args) hZ wk)
  exact selects_self_of_private hc hk (by cases h : k.isInterface <;> simp [h] at hab ⊢) (Cond.privateMethod_at (mvP (args := args) hZ wp)) (mvT hZ wi) hy
/-- a constructor by its contract, through an entry that is resolved already -/
theorem own_specialRef {p : Program} {l : Launch} {e : Env} {R : Room} {s : State} {m : MethodId} {args : Array Value} {below : List Frame} {meth : Method} {c : Code} {T : State} {locs : List Loc} {cells slots : Nat} {Z : State} {a0 : Array Value} (X : Stand p l e R s m args below meth c T locs cells slots) (hx : p.tables.exec = Jvm.exec) (hZ : Z.Warmed39 s.vm) {own : String} {index : Nat} {y : MethodName} (hy1 : y.name = "<init>")
    (hown : s.vm.findClass own = some m.cls) (w : (Cond.methodRef own index y).before a0 Z = true) (wi : (Cond.instanceMethod y).before a0 Z = true)
    {bytes : ByteArray} {maxL : Nat} (wc : (Cond.code y bytes maxL none).before a0 Z = true) (hy : y.cls ≠ "java/lang/invoke/MethodHandle" ∧ y.cls ≠ "java/lang/invoke/VarHandle")
    {W : Nat} {Pre : Pt → Array Value → Prop} {Post : Pt → Array Value → Option Value → Pt → Prop} (hK : Back l R p e below s args y 3 W Pre Post)
    {g : JFrame} (hg : g.method = m) (hsize : g.locals.size = c.maxLocals) {s₀ : State} (hcome : Steps p.tables e below s₀ (T.setTop g)) {a : Addr} {argsL rest : List Value}
    (hlen : ∀ sig, parseMethodDescriptor y.desc = some sig → argsL.length = sig.parameters.length) (hstack : g.stack = argsL.reverse ++ .ref a :: rest) (hW : 2 * g.monitorRoom + (rest.map fun v => v.category).sum ≤ W)
    (hdg : decode c.code g.pc = .ok (.invokespecial index, 3)) (hpre : ∀ vm₁, s.WarmedH vm₁ → Pre ⟨T.setVm vm₁, locs, cells, slots⟩ (.ref a :: argsL).toArray) :
    ∃ (v : Option Value) (vm₁ : Vm) (B : Pt), s.WarmedH vm₁ ∧ Stand p l e R s m args below meth c B.U B.locs B.cells B.slots ∧ Post ⟨T.setVm vm₁, locs, cells, slots⟩ (.ref a :: argsL).toArray v B ∧
      Steps p.tables e below s₀ (B.U.setTop { g with pc := g.pc + 3, stack := v.toList ++ rest }) := by
  have hT : Z.Warmed39 T.vm := wtrans hZ X.warmed
  obtain ⟨obj, methO, hnZ, hmZ, hst, hab⟩ := Cond.instanceMethod_spec wi
  obtain ⟨methO', cO, hmZ', -, -, -, -, -, -, hsig⟩ := Cond.code_spec hnZ wc
  cases hmZ.symm.trans hmZ'
  obtain ⟨kO, hkO, -⟩ := className_of_methodNamed hnZ
  obtain ⟨hnm, hds⟩ := name_of_methodNamed hnZ hmZ
  have w' := Cond.methodRef_warmed39 (args := a0) hT hnZ hy w
  have hownT : (Z.setVm T.vm).vm.findClass own = some m.cls := by
    show T.vm.findClass own = some m.cls
    rw [X.warmed.alike.findClass]; exact hown
  obtain ⟨m', c', hf, hready, hfc, hnr⟩ := Cond.methodRef_named (s := Z.setVm T.vm) e hownT w'
  have hnT : (Z.setVm T.vm).methodNamed? y = some obj := by rw [State.methodNamed?_setVm hT.alike]; exact hnZ
  cases hf.symm.trans (State.methodFound?_of_named hnT hy)
  have hc' : c' = obj.cls := Option.some.inj (hfc.symm.trans (findClass_of_methodNamed hnT))
  subst hc'
  obtain ⟨kT, hkT, -⟩ := hT.alike.2.2 _ _ hkO
  have hmT : T.vm.method? obj = some methO := by rw [hT.alike.method?]; exact hmZ
  have hfound : lookupSpecial T.vm obj.cls "<init>" methO.desc = .method obj := by
    rw [hT.alike.lookupSpecial, hds, ← hy1]; exact lookupSpecial_of_named hnZ hmZ hst
  have hns : s.methodNamed? y = some obj := by
    have q : (Z.setVm s.vm).methodNamed? y = some obj := by rw [State.methodNamed?_setVm hZ.alike]; exact hnZ
    exact q
  obtain ⟨v, B, X', hpost, hsteps⟩ := hK m meth c ⟨T.setVm T.vm, locs, cells, slots⟩ { g with stack := rest } (.invokespecial index) obj (.ref a :: argsL).toArray X hg hsize hdg hW (X.named hns) (hpre T.vm X.warmed)
  refine ⟨v, T.vm, B, X.warmed, X', hpost, hcome.trans ?_⟩
  subst hg
  have hstep : ∀ target, (∀ acts, Steps p.tables e below (doInvoke e (T.setTop { g with stack := rest }) acts obj (.ref a :: argsL).toArray).1 target) → Steps p.tables e below (T.setTop g) target := fun target hrest => by
    jvm_step X.here [hx, hdg, invokespecial.wp_init (e := e) (s := T) (k := kT) (meth := methO) (m := obj) (a := a) (args := argsL) (rest := rest) (f := g) X.here.top hnr hready hkT hmT (by rw [hnm]; exact hy1) hst hab hfound (hlen _ hsig) hstack]
    exact hrest
  exact hstep _ fun acts => by rw [doInvoke_state]; exact hsteps
def QN (h0 : Heap) (n0 : Nat) (v : Option Value) (h : Heap) (L : List Loc) : Prop := v = none ∧ Fr n0 L ∧ h = h0
/-- a byte array of length n -/
def By (Z : State) (h : Heap) (b : Addr) (n : Int32) : Prop := ∃ c : Cell, Arr Z h b c .byte ∧ c.slots.size = n.toNatClampNeg ∧ ¬ n < 0
theorem By.of {Z : State} {h : Heap} {b : Addr} {k : ClassId} {n : Int32} {vs : List Value} {dv : Value} (V : Arv Z h b k .byte n vs dv) : By Z h b n := by obtain ⟨c, A, -, S, N, -⟩ := V; exact ⟨c, A, S, N⟩
theorem By.lt {Z : State} {h : Heap} {b : Addr} {n : Int32} (M : By Z h b n) : b < h.size := by obtain ⟨c, A, -⟩ := M; exact A.lt
theorem By.ext {Z : State} {h h' : Heap} {b : Addr} {n : Int32} (M : By Z h b n) (E : Ext h h') : By Z h' b n := by obtain ⟨c, A, r⟩ := M; exact ⟨c, A.ext E, r⟩
theorem By.other {Z : State} {h h' : Heap} {a b : Addr} {n : Int32} {sl : Nat} {v : Value} (M : By Z h b n) (W : Wr h h' a sl v) (q : b ≠ a) : By Z h' b n := by obtain ⟨c, A, r⟩ := M; exact ⟨c, A.other W q, r⟩
theorem By.keep {Z : State} {h h' : Heap} {b : Addr} {n : Int32} {ws : List Addr} (M : By Z h b n) (K : Keep h h' ws) (q : b ∉ ws) : By Z h' b n := by obtain ⟨c, A, r⟩ := M; exact ⟨c, ⟨K.2.1 b c A.1 q, A.2⟩, r⟩
theorem own_szS (c : Cell) (i : Nat) (v : Value) : (c.setSlot i v).slots.size = c.slots.size := by simp [Cell.setSlot]
/-- .. and what its first two places hold -/
def By2 (Z : State) (h : Heap) (b : Addr) (n x y : Int32) : Prop := ∃ c : Cell, Arr Z h b c .byte ∧ c.slots.size = n.toNatClampNeg ∧ ¬ n < 0 ∧ c.slots[0]? = some (.int x) ∧ c.slots[1]? = some (.int y)
theorem By2.lt {Z : State} {h : Heap} {b : Addr} {n x y : Int32} (M : By2 Z h b n x y) : b < h.size := by obtain ⟨c, A, -⟩ := M; exact A.lt
theorem own_two {c : Cell} {n : Int32} (S : c.slots.size = n.toNatClampNeg) (h2 : (1 : Int32) < n) : 2 ≤ c.slots.size := by
  have q := inb_of (j := (1 : Int32)) S ⟨by decide, h2⟩
  exact Nat.lt_of_not_le fun y => q (Or.inr y)
theorem By2.of {Z : State} {h : Heap} {b : Addr} {n : Int32} {c : Cell} {x y : Int32} (A : Arr Z h b ((c.setSlot 0 (.int x)).setSlot 1 (.int y)) .byte) (S : c.slots.size = n.toNatClampNeg) (N : ¬ n < 0) (h2 : (1 : Int32) < n) : By2 Z h b n x y := by
  have q := own_two S h2
  refine ⟨_, A, by rw [own_szS, own_szS]; exact S, N, ?_, ?_⟩
  · simp [Cell.setSlot, Array.getElem?_setIfInBounds]
    intro z
    rw [z] at q
    simp at q
  · simp [Cell.setSlot, Array.getElem?_setIfInBounds]; omega
def QB (Z : State) (a : Addr) (n : Int32) (h0 : Heap) (n0 : Nat) (v : Option Value) (h : Heap) (L : List Loc) : Prop := v = none ∧ Fr n0 L ∧ Keep h0 h [a] ∧ By Z h a n
def QR (Z : State) (b r : Addr) (x n : Int32) (h0 : Heap) (n0 : Nat) (v : Option Value) (h : Heap) (L : List Loc) : Prop := v = none ∧ Fr n0 L ∧ Keep h0 h [b] ∧ Exa Z h b "com/example/rosehip/rosehip/codec/BerReader" ∧ Fld Z h b "com/example/rosehip/rosehip/codec/BerReader" "bytes" "[B" (.ref r) ∧ Fld Z h b "com/example/rosehip/rosehip/codec/BerReader" "position" "I" (.int x) ∧ Fld Z h b "com/example/rosehip/rosehip/codec/BerReader" "limit" "I" (.int n)
def QH (Z : State) (b : Addr) (i : Int32) (n : Int64) (c : Int32) (h0 : Heap) (n0 : Nat) (v : Option Value) (h : Heap) (L : List Loc) : Prop := v = none ∧ Fr n0 L ∧ Keep h0 h [b] ∧ Exa Z h b "com/example/rosehip/rosehip/codec/BerReader$Header" ∧ Fld Z h b "com/example/rosehip/rosehip/codec/BerReader$Header" "identifier" "I" (.int i) ∧ Fld Z h b "com/example/rosehip/rosehip/codec/BerReader$Header" "length" "J" (.long n) ∧ Fld Z h b "com/example/rosehip/rosehip/codec/BerReader$Header" "contentStart" "I" (.int c)
def QHd (Z : State) (i : Int32) (n : Int64) (c : Int32) (h0 : Heap) (n0 : Nat) (v : Option Value) (h : Heap) (L : List Loc) : Prop := ∃ b, v = some (.ref b) ∧ Fr n0 L ∧ b = h0.size ∧ Keep h0 h [] ∧ Exa Z h b "com/example/rosehip/rosehip/codec/BerReader$Header" ∧ Fld Z h b "com/example/rosehip/rosehip/codec/BerReader$Header" "identifier" "I" (.int i) ∧ Fld Z h b "com/example/rosehip/rosehip/codec/BerReader$Header" "length" "J" (.long n) ∧ Fld Z h b "com/example/rosehip/rosehip/codec/BerReader$Header" "contentStart" "I" (.int c)
def QE (Z : State) (b : Addr) (i st cs ce en : Int32) (h0 : Heap) (n0 : Nat) (v : Option Value) (h : Heap) (L : List Loc) : Prop := v = none ∧ Fr n0 L ∧ Keep h0 h [b] ∧ Exa Z h b "com/example/rosehip/rosehip/codec/BerReader$Element" ∧ Fld Z h b "com/example/rosehip/rosehip/codec/BerReader$Element" "identifier" "I" (.int i) ∧ Fld Z h b "com/example/rosehip/rosehip/codec/BerReader$Element" "start" "I" (.int st) ∧ Fld Z h b "com/example/rosehip/rosehip/codec/BerReader$Element" "contentStart" "I" (.int cs) ∧ Fld Z h b "com/example/rosehip/rosehip/codec/BerReader$Element" "contentEnd" "I" (.int ce) ∧ Fld Z h b "com/example/rosehip/rosehip/codec/BerReader$Element" "end" "I" (.int en)
def QRd (Z : State) (a : Addr) (n en : Int32) (h0 : Heap) (n0 : Nat) (v : Option Value) (h : Heap) (L : List Loc) : Prop := ∃ b, v = some (.ref b) ∧ Fr n0 L ∧ Keep h0 h [a] ∧ Exa Z h b "com/example/rosehip/rosehip/codec/BerReader$Element" ∧ Fld Z h b "com/example/rosehip/rosehip/codec/BerReader$Element" "end" "I" (.int en) ∧ Exa Z h a "com/example/rosehip/rosehip/codec/BerReader" ∧ Fld Z h a "com/example/rosehip/rosehip/codec/BerReader" "position" "I" (.int en) ∧ Fld Z h a "com/example/rosehip/rosehip/codec/BerReader" "limit" "I" (.int n)
theorem d1_0 : decode method_2_code 0 = .ok (.iload_n 1, 1) := by decide +kernel
theorem d1_1 : decode method_2_code 1 = .ok (.aload_n 0, 1) := by decide +kernel
theorem d1_2 : decode method_2_code 2 = .ok (.arraylength, 1) := by decide +kernel
theorem d1_3 : decode method_2_code 3 = .ok (.if_icmp .ge 14, 3) := by decide +kernel
theorem d1_17 : decode method_2_code 17 = .ok (.return_, 1) := by decide +kernel
theorem pn_1 : plainName "com/example/rosehip/rosehip/codec/BerReaderHasMorePinLaw" = true := by first | (simp [plainName, overriddenIn]; done) | decide +kernel
theorem ef_1 (m : MethodId) (x0 : Addr) (x1 : Int32) (x2 : Int64) : entryFrame m #[(.ref x0), (.int x1), (.long x2)] 4 = mkF m 0 #[.val (.ref x0), .val (.int x1), .val (.long x2), .second] [] := by first | (simp [entryFrame, mkF, argsToLocals, Value.category]; done) | rfl
set_option maxRecDepth 65536 in
set_option maxHeartbeats 40000000 in
theorem rm1_t (l : Launch) (Z : State) (a0 : Array Value) (hw : ∀ d ∈ tables_1, d.before a0 Z = true) (ws : List Jvm.Cond) (a1 : Addr) (p2 : Int32) (q3 : Int64) (cl_a1 : Cell) (z_a1 : Int32) (h0 : Heap) (n0 : Nat) (Z0 : n0 ≤ h0.size) (Ar_a1 : Arr Z h0 a1 cl_a1 .byte) (S_a1 : cl_a1.slots.size = z_a1.toNatClampNeg) (N_a1 : ¬ z_a1 < 0) (hc3 : ¬ (p2 < z_a1)) :
    MetFree l (⟨"com/example/rosehip/rosehip/codec/BerReaderHasMorePinLaw", "put", "([BIJ)V"⟩ : MethodName) (head1 (Jvm.Cond.code (⟨"com/example/rosehip/rosehip/codec/BerReaderHasMorePinLaw", "put", "([BIJ)V"⟩ : MethodName) method_2_code 4 none :: ws) ({ frames := 0, cells := 0, slots := 0, locals := 0 } : Room)) (fun a U => a = #[(.ref a1), (.int p2), (.long q3)] ∧ Z.Warmed39 U.vm ∧ U.heap = h0) (fun _ _ _ _ _ => True) (fun _ U o U' => ∃ v L, o = .returned v ∧ QB Z a1 z_a1 h0 n0 v U'.heap L ∧ FrameEnd U o U' L ({ frames := 0, cells := 0, slots := 0, locals := 0 } : Room).cells ({ frames := 0, cells := 0, slots := 0, locals := 0 } : Room).slots) := by
  refine MetFree.of_bodySF (plainFor_of_name pn_1) hisR ?_
  intro p e s m args below meth c s₁ Bd hml0 hP hK
  obtain ⟨rfl, hZ, hh⟩ := hP
  have hx := Bd.exec
  have hby := Bd.bytes
  have hml : c.maxLocals = 4 := hml0
  have hown : s.vm.findClass "com/example/rosehip/rosehip/codec/BerReaderHasMorePinLaw" = some m.cls := findClass_of_methodNamed Bd.named
  have hnm := (name_of_methodNamed Bd.named Bd.method).1
  have X0 : Stand p l e ({ frames := 0, cells := 0, slots := 0, locals := 0 } : Room) s m #[(.ref a1), (.int p2), (.long q3)] below meth c s₁ [] 0 0 := Stand.of_body Bd
  have e0 : s₁.heap = h0 := by rw [← hh, Bd.state]; rfl
  have N0 := Fr.nil n0
  have pre0 : ∀ t, Steps p.tables e below (s₁.setTop (mkF m 0 #[.val (.ref a1), .val (.int p2), .val (.long q3), .second] [])) t → Steps p.tables e below (s₁.setTop (entryFrame m #[(.ref a1), (.int p2), (.long q3)] 4)) t := fun t k => castTop (ef_1 m a1 p2 q3) k
  -- 3. LAWS
  obtain ⟨fs, hr, hrun, hended, hW, hsame⟩ := X0.leave (v := none) (fun _ => rfl)
  refine ⟨_, _, pre0 _ ?_, hrun, hended, _, _, rfl, ?_, ⟨_, rfl⟩, hW, hsame.mono (by decide) (by decide)⟩
  -- 4. STEPS
  · show Steps p.tables e below (s₁.setTop (mkF m 0 #[.val (.ref a1), .val (.int p2), .val (.long q3), .second] [])) _
    refine XS.iloadN X0.here hx rfl (hb hby d1_0) rfl ?_
    show Steps p.tables e below (s₁.setTop (mkF m 1 #[.val (.ref a1), .val (.int p2), .val (.long q3), .second] [(.int p2)])) _
    refine XS.aloadN X0.here hx rfl (hb hby d1_1) rfl rfl ?_
    show Steps p.tables e below (s₁.setTop (mkF m 2 #[.val (.ref a1), .val (.int p2), .val (.long q3), .second] [(.ref a1), (.int p2)])) _
    refine X0.arraylength hx (by rw [e0]; exact Ar_a1.1) (State.isArrayOf_alike hZ.alike Ar_a1.2.1) (g := (mkF m 2 #[.val (.ref a1), .val (.int p2), .val (.long q3), .second] [(.ref a1), (.int p2)])) rfl rfl (hb hby d1_2) _ ?_
    rw [len_of S_a1 N_a1]
    show Steps p.tables e below (s₁.setTop (mkF m 3 #[.val (.ref a1), .val (.int p2), .val (.long q3), .second] [(.int z_a1), (.int p2)])) _
    refine XS.icmpYes X0.here hx rfl (pc0 := 3) (pc' := 17) rfl (hb hby d1_3) rfl (flt hc3).2.1 (by decide) (by decide) ?_
    show Steps p.tables e below (s₁.setTop (mkF m 17 #[.val (.ref a1), .val (.int p2), .val (.long q3), .second] [])) _
    exact X0.returnOut hx Bd.returns (hb hby d1_17) hr
  · show QB Z a1 z_a1 h0 n0 _ s₁.heap _
    rw [e0]
    exact ⟨rfl, N0, Keep.refl _ _, cl_a1, Ar_a1, S_a1, N_a1⟩
theorem d1_6 : decode method_2_code 6 = .ok (.aload_n 0, 1) := by decide +kernel
theorem d1_7 : decode method_2_code 7 = .ok (.iload_n 1, 1) := by decide +kernel
theorem d1_8 : decode method_2_code 8 = .ok (.lload_n 2, 1) := by decide +kernel
theorem d1_9 : decode method_2_code 9 = .ok (.bipush 8, 2) := by decide +kernel
theorem d1_11 : decode method_2_code 11 = .ok (.iload_n 1, 1) := by decide +kernel
theorem d1_12 : decode method_2_code 12 = .ok (.imul, 1) := by decide +kernel
theorem d1_13 : decode method_2_code 13 = .ok (.lushr, 1) := by decide +kernel
theorem d1_14 : decode method_2_code 14 = .ok (.l2i, 1) := by decide +kernel
theorem d1_15 : decode method_2_code 15 = .ok (.i2b, 1) := by decide +kernel
theorem d1_16 : decode method_2_code 16 = .ok (.bastore, 1) := by decide +kernel
set_option maxRecDepth 65536 in
set_option maxHeartbeats 40000000 in
theorem rm1_f (l : Launch) (Z : State) (a0 : Array Value) (hw : ∀ d ∈ tables_1, d.before a0 Z = true) (ws : List Jvm.Cond) (a1 : Addr) (p2 : Int32) (q3 : Int64) (cl_a1 : Cell) (z_a1 : Int32) (h0 : Heap) (n0 : Nat) (Z0 : n0 ≤ h0.size) (Ar_a1 : Arr Z h0 a1 cl_a1 .byte) (S_a1 : cl_a1.slots.size = z_a1.toNatClampNeg) (N_a1 : ¬ z_a1 < 0) (hin16 : ¬ (p2 < 0 ∨ cl_a1.slots.size ≤ (p2).toNatClampNeg)) (g_a1 : n0 ≤ a1) (hc3 : p2 < z_a1) :
    MetFree l (⟨"com/example/rosehip/rosehip/codec/BerReaderHasMorePinLaw", "put", "([BIJ)V"⟩ : MethodName) (head1 (Jvm.Cond.code (⟨"com/example/rosehip/rosehip/codec/BerReaderHasMorePinLaw", "put", "([BIJ)V"⟩ : MethodName) method_2_code 4 none :: ws) ({ frames := 0, cells := 0, slots := 0, locals := 0 } : Room)) (fun a U => a = #[(.ref a1), (.int p2), (.long q3)] ∧ Z.Warmed39 U.vm ∧ U.heap = h0) (fun _ _ _ _ _ => True) (fun _ U o U' => ∃ v L, o = .returned v ∧ QB Z a1 z_a1 h0 n0 v U'.heap L ∧ FrameEnd U o U' L ({ frames := 0, cells := 0, slots := 0, locals := 0 } : Room).cells ({ frames := 0, cells := 0, slots := 0, locals := 0 } : Room).slots) := by
  refine MetFree.of_bodySF (plainFor_of_name pn_1) hisR ?_
  intro p e s m args below meth c s₁ Bd hml0 hP hK
  obtain ⟨rfl, hZ, hh⟩ := hP
  have hx := Bd.exec
  have hby := Bd.bytes
  have hml : c.maxLocals = 4 := hml0
  have hown : s.vm.findClass "com/example/rosehip/rosehip/codec/BerReaderHasMorePinLaw" = some m.cls := findClass_of_methodNamed Bd.named
  have hnm := (name_of_methodNamed Bd.named Bd.method).1
  have X0 : Stand p l e ({ frames := 0, cells := 0, slots := 0, locals := 0 } : Room) s m #[(.ref a1), (.int p2), (.long q3)] below meth c s₁ [] 0 0 := Stand.of_body Bd
  have e0 : s₁.heap = h0 := by rw [← hh, Bd.state]; rfl
  have N0 := Fr.nil n0
  have pre0 : ∀ t, Steps p.tables e below (s₁.setTop (mkF m 0 #[.val (.ref a1), .val (.int p2), .val (.long q3), .second] [])) t → Steps p.tables e below (s₁.setTop (entryFrame m #[(.ref a1), (.int p2), (.long q3)] 4)) t := fun t k => castTop (ef_1 m a1 p2 q3) k
  -- 3. LAWS
  obtain ⟨T4, h4, X4, e4, W4, st4⟩ := stB X0 hx hZ e0 Ar_a1 (j := p2) hin16 (g := (mkF m 16 #[.val (.ref a1), .val (.int p2), .val (.long q3), .second] [(.int ((((q3.toUInt64 >>> (((8 : Int32) * p2) &&& 0x3f).toInt64.toUInt64).toInt64).toInt32).toInt8.toInt32)), (.int p2), (.ref a1)])) rfl rfl (hb hby d1_16)
  have N4 := Fr.snoc X4 N0 g_a1
  -- Ar_a1.same W4 : the array with (.int ((((q3.toUInt64 >>> (((8 : Int32) * p2) &&& 0x3f).toInt64.toUInt64).toInt64).toInt32).toInt8.toInt32)) at the place p2
  have K4 : Keep h0 h4 [a1] := (Keep.refl h0 [a1]).wr W4 (Or.inl (List.mem_of_getElem? (i := 0) rfl))
  obtain ⟨fs, hr, hrun, hended, hW, hsame⟩ := X4.leave (v := none) (fun _ => rfl)
  refine ⟨_, _, pre0 _ ?_, hrun, hended, _, _, rfl, ?_, ⟨_, rfl⟩, hW, hsame.mono (by decide) (by decide)⟩
  -- 4. STEPS
  · show Steps p.tables e below (s₁.setTop (mkF m 0 #[.val (.ref a1), .val (.int p2), .val (.long q3), .second] [])) _
    refine XS.iloadN X0.here hx rfl (hb hby d1_0) rfl ?_
    show Steps p.tables e below (s₁.setTop (mkF m 1 #[.val (.ref a1), .val (.int p2), .val (.long q3), .second] [(.int p2)])) _
    refine XS.aloadN X0.here hx rfl (hb hby d1_1) rfl rfl ?_
    show Steps p.tables e below (s₁.setTop (mkF m 2 #[.val (.ref a1), .val (.int p2), .val (.long q3), .second] [(.ref a1), (.int p2)])) _
    refine X0.arraylength hx (by rw [e0]; exact Ar_a1.1) (State.isArrayOf_alike hZ.alike Ar_a1.2.1) (g := (mkF m 2 #[.val (.ref a1), .val (.int p2), .val (.long q3), .second] [(.ref a1), (.int p2)])) rfl rfl (hb hby d1_2) _ ?_
    rw [len_of S_a1 N_a1]
    show Steps p.tables e below (s₁.setTop (mkF m 3 #[.val (.ref a1), .val (.int p2), .val (.long q3), .second] [(.int z_a1), (.int p2)])) _
    refine XS.icmpNo X0.here hx rfl (hb hby d1_3) rfl (tlt hc3).2.1 ?_
    show Steps p.tables e below (s₁.setTop (mkF m 6 #[.val (.ref a1), .val (.int p2), .val (.long q3), .second] [])) _
    refine XS.aloadN X0.here hx rfl (hb hby d1_6) rfl rfl ?_
    show Steps p.tables e below (s₁.setTop (mkF m 7 #[.val (.ref a1), .val (.int p2), .val (.long q3), .second] [(.ref a1)])) _
    refine XS.iloadN X0.here hx rfl (hb hby d1_7) rfl ?_
    show Steps p.tables e below (s₁.setTop (mkF m 8 #[.val (.ref a1), .val (.int p2), .val (.long q3), .second] [(.int p2), (.ref a1)])) _
    refine XS.lloadN X0.here hx rfl (hb hby d1_8) rfl ?_
    show Steps p.tables e below (s₁.setTop (mkF m 9 #[.val (.ref a1), .val (.int p2), .val (.long q3), .second] [(.long q3), (.int p2), (.ref a1)])) _
    refine XS.bipush X0.here hx rfl (hb hby d1_9) ?_
    show Steps p.tables e below (s₁.setTop (mkF m 11 #[.val (.ref a1), .val (.int p2), .val (.long q3), .second] [(.int (8 : Int32)), (.long q3), (.int p2), (.ref a1)])) _
    refine XS.iloadN X0.here hx rfl (hb hby d1_11) rfl ?_
    show Steps p.tables e below (s₁.setTop (mkF m 12 #[.val (.ref a1), .val (.int p2), .val (.long q3), .second] [(.int p2), (.int (8 : Int32)), (.long q3), (.int p2), (.ref a1)])) _
    refine XS.imul X0.here hx rfl (hb hby d1_12) rfl ?_
    show Steps p.tables e below (s₁.setTop (mkF m 13 #[.val (.ref a1), .val (.int p2), .val (.long q3), .second] [(.int ((8 : Int32) * p2)), (.long q3), (.int p2), (.ref a1)])) _
    refine XS.lushr X0.here hx rfl (hb hby d1_13) rfl ?_
    show Steps p.tables e below (s₁.setTop (mkF m 14 #[.val (.ref a1), .val (.int p2), .val (.long q3), .second] [(.long ((q3.toUInt64 >>> (((8 : Int32) * p2) &&& 0x3f).toInt64.toUInt64).toInt64)), (.int p2), (.ref a1)])) _
    refine XS.l2i X0.here hx rfl (hb hby d1_14) rfl ?_
    show Steps p.tables e below (s₁.setTop (mkF m 15 #[.val (.ref a1), .val (.int p2), .val (.long q3), .second] [(.int (((q3.toUInt64 >>> (((8 : Int32) * p2) &&& 0x3f).toInt64.toUInt64).toInt64).toInt32)), (.int p2), (.ref a1)])) _
    refine XS.i2b X0.here hx rfl (hb hby d1_15) rfl ?_
    show Steps p.tables e below (s₁.setTop (mkF m 16 #[.val (.ref a1), .val (.int p2), .val (.long q3), .second] [(.int ((((q3.toUInt64 >>> (((8 : Int32) * p2) &&& 0x3f).toInt64.toUInt64).toInt64).toInt32).toInt8.toInt32)), (.int p2), (.ref a1)])) _
    refine st4 _ ?_
    show Steps p.tables e below (T4.setTop (mkF m 17 #[.val (.ref a1), .val (.int p2), .val (.long q3), .second] [])) _
    exact X4.returnOut hx Bd.returns (hb hby d1_17) hr
  · show QB Z a1 z_a1 h0 n0 _ T4.heap _
    rw [e4]
    exact ⟨rfl, N4, K4, _, Ar_a1.same W4, (own_szS _ _ _).trans S_a1, N_a1⟩
set_option maxRecDepth 65536 in
set_option maxHeartbeats 40000000 in
theorem rm1 (l : Launch) (Z : State) (a0 : Array Value) (hw : ∀ d ∈ tables_1, d.before a0 Z = true) (ws : List Jvm.Cond) (a1 : Addr) (p2 : Int32) (q3 : Int64) (n : Int32) (h0 : Heap) (n0 : Nat) (Z0 : n0 ≤ h0.size) (B : By Z h0 a1 n) (g_a1 : n0 ≤ a1) (hi : ¬ p2 < 0) :
    MetFree l (⟨"com/example/rosehip/rosehip/codec/BerReaderHasMorePinLaw", "put", "([BIJ)V"⟩ : MethodName) (head1 (Jvm.Cond.code (⟨"com/example/rosehip/rosehip/codec/BerReaderHasMorePinLaw", "put", "([BIJ)V"⟩ : MethodName) method_2_code 4 none :: ws) ({ frames := 0, cells := 0, slots := 0, locals := 0 } : Room)) (fun a U => a = #[(.ref a1), (.int p2), (.long q3)] ∧ Z.Warmed39 U.vm ∧ U.heap = h0) (fun _ _ _ _ _ => True) (fun _ U o U' => ∃ v L, o = .returned v ∧ QB Z a1 n h0 n0 v U'.heap L ∧ FrameEnd U o U' L ({ frames := 0, cells := 0, slots := 0, locals := 0 } : Room).cells ({ frames := 0, cells := 0, slots := 0, locals := 0 } : Room).slots) := by
  obtain ⟨c, A, S, N⟩ := B
  by_cases h : p2 < n
  · exact rm1_f l Z a0 hw ws a1 p2 q3 c n h0 n0 Z0 A S N (inb_of S ⟨hi, h⟩) g_a1 h
  · exact rm1_t l Z a0 hw ws a1 p2 q3 c n h0 n0 Z0 A S N h
theorem d3_0 : decode prog_7_method_2_code 0 = .ok (.aload_n 0, 1) := by decide +kernel
theorem d3_1 : decode prog_7_method_2_code 1 = .ok (.invokespecial 9, 3) := by decide +kernel
theorem d3_4 : decode prog_7_method_2_code 4 = .ok (.aload_n 0, 1) := by decide +kernel
theorem d3_5 : decode prog_7_method_2_code 5 = .ok (.aload_n 1, 1) := by decide +kernel
theorem d3_6 : decode prog_7_method_2_code 6 = .ok (.putfield 14, 3) := by decide +kernel
theorem d3_9 : decode prog_7_method_2_code 9 = .ok (.aload_n 0, 1) := by decide +kernel
theorem d3_10 : decode prog_7_method_2_code 10 = .ok (.iload_n 2, 1) := by decide +kernel
theorem d3_11 : decode prog_7_method_2_code 11 = .ok (.putfield 18, 3) := by decide +kernel
theorem d3_14 : decode prog_7_method_2_code 14 = .ok (.aload_n 0, 1) := by decide +kernel
theorem d3_15 : decode prog_7_method_2_code 15 = .ok (.iload_n 3, 1) := by decide +kernel
theorem d3_16 : decode prog_7_method_2_code 16 = .ok (.putfield 22, 3) := by decide +kernel
theorem d3_19 : decode prog_7_method_2_code 19 = .ok (.return_, 1) := by decide +kernel
theorem pn_3 : plainName "com/example/rosehip/rosehip/codec/BerReader" = true := by first | (simp [plainName, overriddenIn]; done) | decide +kernel
theorem ef_3 (m : MethodId) (x0 : Addr) (x1 : Addr) (x2 : Int32) (x3 : Int32) : entryFrame m #[(.ref x0), (.ref x1), (.int x2), (.int x3)] 4 = mkF m 0 #[.val (.ref x0), .val (.ref x1), .val (.int x2), .val (.int x3)] [] := by first | (simp [entryFrame, mkF, argsToLocals, Value.category]; done) | rfl
set_option maxRecDepth 65536 in
set_option maxHeartbeats 40000000 in
theorem rm3 (l : Launch) (Z : State) (a0 : Array Value) (hw : ∀ d ∈ tables_1, d.before a0 Z = true) (ws : List Jvm.Cond) (a1 : Addr) (a2 : Addr) (p3 : Int32) (p4 : Int32) (u_bytes_a1 : Value) (u_position_a1 : Value) (u_limit_a1 : Value) (h0 : Heap) (n0 : Nat) (Z0 : n0 ≤ h0.size) (E_a1 : Exa Z h0 a1 "com/example/rosehip/rosehip/codec/BerReader") (F_bytes_a1 : Fld Z h0 a1 "com/example/rosehip/rosehip/codec/BerReader" "bytes" "[B" u_bytes_a1) (g_a1 : n0 ≤ a1) (F_position_a1 : Fld Z h0 a1 "com/example/rosehip/rosehip/codec/BerReader" "position" "I" u_position_a1) (F_limit_a1 : Fld Z h0 a1 "com/example/rosehip/rosehip/codec/BerReader" "limit" "I" u_limit_a1) :
    MetFree l (⟨"com/example/rosehip/rosehip/codec/BerReader", "<init>", "([BII)V"⟩ : MethodName) (head1 (Jvm.Cond.code (⟨"com/example/rosehip/rosehip/codec/BerReader", "<init>", "([BII)V"⟩ : MethodName) prog_7_method_2_code 4 none :: ws) ({ frames := 1, cells := 0, slots := 0, locals := 12 } : Room)) (fun a U => a = #[(.ref a1), (.ref a2), (.int p3), (.int p4)] ∧ Z.Warmed39 U.vm ∧ U.heap = h0) (fun _ _ _ _ _ => True) (fun _ U o U' => ∃ v L, o = .returned v ∧ QR Z a1 a2 p3 p4 h0 n0 v U'.heap L ∧ FrameEnd U o U' L ({ frames := 1, cells := 0, slots := 0, locals := 12 } : Room).cells ({ frames := 1, cells := 0, slots := 0, locals := 12 } : Room).slots) := by
  refine MetFree.of_bodySF (plainFor_of_name pn_3) hisR ?_
  intro p e s m args below meth c s₁ Bd hml0 hP hK
  obtain ⟨rfl, hZ, hh⟩ := hP
  have hx := Bd.exec
  have hby := Bd.bytes
  have hml : c.maxLocals = 4 := hml0
  have hown : s.vm.findClass "com/example/rosehip/rosehip/codec/BerReader" = some m.cls := findClass_of_methodNamed Bd.named
  have hnm := (name_of_methodNamed Bd.named Bd.method).1
  have X0 : Stand p l e ({ frames := 1, cells := 0, slots := 0, locals := 12 } : Room) s m #[(.ref a1), (.ref a2), (.int p3), (.int p4)] below meth c s₁ [] 0 0 := Stand.of_body Bd
  have e0 : s₁.heap = h0 := by rw [← hh, Bd.state]; rfl
  have N0 := Fr.nil n0
  have pre0 : ∀ t, Steps p.tables e below (s₁.setTop (mkF m 0 #[.val (.ref a1), .val (.ref a2), .val (.int p3), .val (.int p4)] [])) t → Steps p.tables e below (s₁.setTop (entryFrame m #[(.ref a1), (.ref a2), (.int p3), (.int p4)] 4)) t := fun t k => castTop (ef_3 m a1 a2 p3 p4) k
  -- 3. LAWS
  obtain ⟨T5, X5, e5, st5⟩ := initO X0 hx hZ hown (hw _ (List.mem_of_getElem? (i := 14) rfl)) (hw _ (List.mem_of_getElem? (i := 15) rfl)) (hw _ (List.mem_of_getElem? (i := 16) rfl)) e0 (g := (mkF m 1 #[.val (.ref a1), .val (.ref a2), .val (.int p3), .val (.int p4)] [(.ref a1)])) rfl (by rw [hml]; rfl) rfl (hb hby d3_1) (by decide) (W := 0) (by show 2 * 0 + _ ≤ _; exact Nat.le_of_eq rfl) (by decide)
  obtain ⟨T6, h6, X6, e6, W6, st6⟩ := putF X5 hx hZ hown (host := "") (Or.inl (hw _ (List.mem_of_getElem? (i := 17) rfl))) Via.refl e5 F_bytes_a1 E_a1 (Or.inr ⟨(hw _ (List.mem_of_getElem? (i := 18) rfl)), rfl, hnm⟩) (hw _ (List.mem_of_getElem? (i := 6) rfl)) (ty := (.array .byte)) (by decide) rfl rfl (g := (mkF m 6 #[.val (.ref a1), .val (.ref a2), .val (.int p3), .val (.int p4)] [(.ref a2), (.ref a1)])) rfl rfl (hb hby d3_6)
  have Fw6 := F_bytes_a1.same W6      -- the field now holds (.ref a2)
  have K6 : Keep h0 h6 [a1] := (Keep.refl h0 [a1]).wr W6 (Or.inl (List.mem_of_getElem? (i := 0) rfl))
  have N6 := Fr.snoc X6 N0 g_a1
  obtain ⟨T7, h7, X7, e7, W7, st7⟩ := putF X6 hx hZ hown (host := "") (Or.inl (hw _ (List.mem_of_getElem? (i := 19) rfl))) Via.refl e6 (F_position_a1.other W6 (Or.inr (slot_ne (Or.inl (hw _ (List.mem_of_getElem? (i := 20) rfl))) (Or.inr (hw _ (List.mem_of_getElem? (i := 18) rfl))) (by decide) (t := .int) (t' := (.array .byte)) (by decide) (by decide)))) (E_a1.wr W6) (Or.inl (hw _ (List.mem_of_getElem? (i := 20) rfl))) (hw _ (List.mem_of_getElem? (i := 6) rfl)) (ty := .int) (by decide) rfl rfl (g := (mkF m 11 #[.val (.ref a1), .val (.ref a2), .val (.int p3), .val (.int p4)] [(.int p3), (.ref a1)])) rfl rfl (hb hby d3_11)
  have Fw7 := (F_position_a1.other W6 (Or.inr (slot_ne (Or.inl (hw _ (List.mem_of_getElem? (i := 20) rfl))) (Or.inr (hw _ (List.mem_of_getElem? (i := 18) rfl))) (by decide) (t := .int) (t' := (.array .byte)) (by decide) (by decide)))).same W7      -- the field now holds (.int p3)
  have K7 : Keep h0 h7 [a1] := K6.wr W7 (Or.inl (List.mem_of_getElem? (i := 0) rfl))
  have N7 := Fr.snoc X7 N6 g_a1
  obtain ⟨T8, h8, X8, e8, W8, st8⟩ := putF X7 hx hZ hown (host := "") (Or.inl (hw _ (List.mem_of_getElem? (i := 21) rfl))) Via.refl e7 ((F_limit_a1.other W6 (Or.inr (slot_ne (Or.inr (hw _ (List.mem_of_getElem? (i := 22) rfl))) (Or.inr (hw _ (List.mem_of_getElem? (i := 18) rfl))) (by decide) (t := .int) (t' := (.array .byte)) (by decide) (by decide)))).other W7 (Or.inr (slot_ne (Or.inr (hw _ (List.mem_of_getElem? (i := 22) rfl))) (Or.inl (hw _ (List.mem_of_getElem? (i := 20) rfl))) (by decide) (t := .int) (t' := .int) (by decide) (by decide)))) ((E_a1.wr W6).wr W7) (Or.inr ⟨(hw _ (List.mem_of_getElem? (i := 22) rfl)), rfl, hnm⟩) (hw _ (List.mem_of_getElem? (i := 6) rfl)) (ty := .int) (by decide) rfl rfl (g := (mkF m 16 #[.val (.ref a1), .val (.ref a2), .val (.int p3), .val (.int p4)] [(.int p4), (.ref a1)])) rfl rfl (hb hby d3_16)
  have Fw8 := ((F_limit_a1.other W6 (Or.inr (slot_ne (Or.inr (hw _ (List.mem_of_getElem? (i := 22) rfl))) (Or.inr (hw _ (List.mem_of_getElem? (i := 18) rfl))) (by decide) (t := .int) (t' := (.array .byte)) (by decide) (by decide)))).other W7 (Or.inr (slot_ne (Or.inr (hw _ (List.mem_of_getElem? (i := 22) rfl))) (Or.inl (hw _ (List.mem_of_getElem? (i := 20) rfl))) (by decide) (t := .int) (t' := .int) (by decide) (by decide)))).same W8      -- the field now holds (.int p4)
  have K8 : Keep h0 h8 [a1] := K7.wr W8 (Or.inl (List.mem_of_getElem? (i := 0) rfl))
  have N8 := Fr.snoc X8 N7 g_a1
  obtain ⟨fs, hr, hrun, hended, hW, hsame⟩ := X8.leave (v := none) (fun _ => rfl)
  refine ⟨_, _, pre0 _ ?_, hrun, hended, _, _, rfl, ?_, ⟨_, rfl⟩, hW, hsame.mono (by decide) (by decide)⟩
  -- 4. STEPS
  · show Steps p.tables e below (s₁.setTop (mkF m 0 #[.val (.ref a1), .val (.ref a2), .val (.int p3), .val (.int p4)] [])) _
    refine XS.aloadN X0.here hx rfl (hb hby d3_0) rfl rfl ?_
    show Steps p.tables e below (s₁.setTop (mkF m 1 #[.val (.ref a1), .val (.ref a2), .val (.int p3), .val (.int p4)] [(.ref a1)])) _
    refine st5 _ ?_
    show Steps p.tables e below (T5.setTop (mkF m 4 #[.val (.ref a1), .val (.ref a2), .val (.int p3), .val (.int p4)] [])) _
    refine XS.aloadN X5.here hx rfl (hb hby d3_4) rfl rfl ?_
    show Steps p.tables e below (T5.setTop (mkF m 5 #[.val (.ref a1), .val (.ref a2), .val (.int p3), .val (.int p4)] [(.ref a1)])) _
    refine XS.aloadN X5.here hx rfl (hb hby d3_5) rfl rfl ?_
    show Steps p.tables e below (T5.setTop (mkF m 6 #[.val (.ref a1), .val (.ref a2), .val (.int p3), .val (.int p4)] [(.ref a2), (.ref a1)])) _
    refine st6 _ ?_
    show Steps p.tables e below (T6.setTop (mkF m 9 #[.val (.ref a1), .val (.ref a2), .val (.int p3), .val (.int p4)] [])) _
    refine XS.aloadN X6.here hx rfl (hb hby d3_9) rfl rfl ?_
    show Steps p.tables e below (T6.setTop (mkF m 10 #[.val (.ref a1), .val (.ref a2), .val (.int p3), .val (.int p4)] [(.ref a1)])) _
    refine XS.iloadN X6.here hx rfl (hb hby d3_10) rfl ?_
    show Steps p.tables e below (T6.setTop (mkF m 11 #[.val (.ref a1), .val (.ref a2), .val (.int p3), .val (.int p4)] [(.int p3), (.ref a1)])) _
    refine st7 _ ?_
    show Steps p.tables e below (T7.setTop (mkF m 14 #[.val (.ref a1), .val (.ref a2), .val (.int p3), .val (.int p4)] [])) _
    refine XS.aloadN X7.here hx rfl (hb hby d3_14) rfl rfl ?_
    show Steps p.tables e below (T7.setTop (mkF m 15 #[.val (.ref a1), .val (.ref a2), .val (.int p3), .val (.int p4)] [(.ref a1)])) _
    refine XS.iloadN X7.here hx rfl (hb hby d3_15) rfl ?_
    show Steps p.tables e below (T7.setTop (mkF m 16 #[.val (.ref a1), .val (.ref a2), .val (.int p3), .val (.int p4)] [(.int p4), (.ref a1)])) _
    refine st8 _ ?_
    show Steps p.tables e below (T8.setTop (mkF m 19 #[.val (.ref a1), .val (.ref a2), .val (.int p3), .val (.int p4)] [])) _
    exact X8.returnOut hx Bd.returns (hb hby d3_19) hr
  · show QR Z a1 a2 p3 p4 h0 n0 _ T8.heap _
    rw [e8]
    exact ⟨rfl, N8, K8, (((E_a1.wr W6).wr W7).wr W8), ((Fw6.other W7 (Or.inr (slot_ne (Or.inr (hw _ (List.mem_of_getElem? (i := 18) rfl))) (Or.inl (hw _ (List.mem_of_getElem? (i := 20) rfl))) (by decide) (t := (.array .byte)) (t' := .int) (by decide) (by decide)))).other W8 (Or.inr (slot_ne (Or.inr (hw _ (List.mem_of_getElem? (i := 18) rfl))) (Or.inr (hw _ (List.mem_of_getElem? (i := 22) rfl))) (by decide) (t := (.array .byte)) (t' := .int) (by decide) (by decide)))), (Fw7.other W8 (Or.inr (slot_ne (Or.inl (hw _ (List.mem_of_getElem? (i := 20) rfl))) (Or.inr (hw _ (List.mem_of_getElem? (i := 22) rfl))) (by decide) (t := .int) (t' := .int) (by decide) (by decide)))), Fw8⟩
theorem d2_0 : decode prog_7_method_1_code 0 = .ok (.aload_n 0, 1) := by decide +kernel
theorem d2_1 : decode prog_7_method_1_code 1 = .ok (.aload_n 1, 1) := by decide +kernel
theorem d2_2 : decode prog_7_method_1_code 2 = .ok (.iconst 0, 1) := by decide +kernel
theorem d2_3 : decode prog_7_method_1_code 3 = .ok (.aload_n 1, 1) := by decide +kernel
theorem d2_4 : decode prog_7_method_1_code 4 = .ok (.arraylength, 1) := by decide +kernel
theorem d2_5 : decode prog_7_method_1_code 5 = .ok (.invokespecial 3, 3) := by decide +kernel
theorem d2_8 : decode prog_7_method_1_code 8 = .ok (.return_, 1) := by decide +kernel
theorem pn_2 : plainName "com/example/rosehip/rosehip/codec/BerReader" = true := by first | (simp [plainName, overriddenIn]; done) | decide +kernel
theorem pd_2_2 : parseMethodDescriptor "([BII)V" = some ⟨[(.array .byte), .int, .int], none⟩ := by decide +kernel
theorem ef_2 (m : MethodId) (x0 : Addr) (x1 : Addr) : entryFrame m #[(.ref x0), (.ref x1)] 2 = mkF m 0 #[.val (.ref x0), .val (.ref x1)] [] := by first | (simp [entryFrame, mkF, argsToLocals, Value.category]; done) | rfl
set_option maxRecDepth 65536 in
set_option maxHeartbeats 40000000 in
theorem rm2_ (l : Launch) (Z : State) (a0 : Array Value) (hw : ∀ d ∈ tables_1, d.before a0 Z = true) (ws : List Jvm.Cond) (a1 : Addr) (a2 : Addr) (cl_a2 : Cell) (z_a2 : Int32) (u1 : Value) (u2 : Value) (u3 : Value) (h0 : Heap) (n0 : Nat) (Z0 : n0 ≤ h0.size) (E1 : Exa Z h0 a1 "com/example/rosehip/rosehip/codec/BerReader") (F1 : Fld Z h0 a1 "com/example/rosehip/rosehip/codec/BerReader" "bytes" "[B" u1) (g_a1 : n0 ≤ a1) (F2 : Fld Z h0 a1 "com/example/rosehip/rosehip/codec/BerReader" "position" "I" u2) (F3 : Fld Z h0 a1 "com/example/rosehip/rosehip/codec/BerReader" "limit" "I" u3) (Ar_a2 : Arr Z h0 a2 cl_a2 .byte) (S_a2 : cl_a2.slots.size = z_a2.toNatClampNeg) (N_a2 : ¬ z_a2 < 0) :
    MetFree l (⟨"com/example/rosehip/rosehip/codec/BerReader", "<init>", "([B)V"⟩ : MethodName) (head1 (Jvm.Cond.code (⟨"com/example/rosehip/rosehip/codec/BerReader", "<init>", "([B)V"⟩ : MethodName) prog_7_method_1_code 2 none :: ws) ({ frames := 2, cells := 0, slots := 0, locals := 27 } : Room)) (fun a U => a = #[(.ref a1), (.ref a2)] ∧ Z.Warmed39 U.vm ∧ U.heap = h0) (fun _ _ _ _ _ => True) (fun _ U o U' => ∃ v L, o = .returned v ∧ QR Z a1 a2 (0 : Int32) z_a2 h0 n0 v U'.heap L ∧ FrameEnd U o U' L ({ frames := 2, cells := 0, slots := 0, locals := 27 } : Room).cells ({ frames := 2, cells := 0, slots := 0, locals := 27 } : Room).slots) := by
  refine MetFree.of_bodySF (plainFor_of_name pn_2) hisR ?_
  intro p e s m args below meth c s₁ Bd hml0 hP hK
  obtain ⟨rfl, hZ, hh⟩ := hP
  have hx := Bd.exec
  have hby := Bd.bytes
  have hml : c.maxLocals = 2 := hml0
  have hown : s.vm.findClass "com/example/rosehip/rosehip/codec/BerReader" = some m.cls := findClass_of_methodNamed Bd.named
  have hnm := (name_of_methodNamed Bd.named Bd.method).1
  have X0 : Stand p l e ({ frames := 2, cells := 0, slots := 0, locals := 27 } : Room) s m #[(.ref a1), (.ref a2)] below meth c s₁ [] 0 0 := Stand.of_body Bd
  have e0 : s₁.heap = h0 := by rw [← hh, Bd.state]; rfl
  have N0 := Fr.nil n0
  have pre0 : ∀ t, Steps p.tables e below (s₁.setTop (mkF m 0 #[.val (.ref a1), .val (.ref a2)] [])) t → Steps p.tables e below (s₁.setTop (entryFrame m #[(.ref a1), (.ref a2)] 2)) t := fun t k => castTop (ef_2 m a1 a2) k
  -- 3. LAWS
  -- pc 5: the constructor of com/example/rosehip/rosehip/codec/BerReader by its contract rm3
  obtain ⟨_, _, ⟨T3, L3, k3, n3⟩, -, X3, ⟨Lc3, hQ3, l3, y3, z3⟩, st3⟩ := X0.specialBack hx (y := (⟨"com/example/rosehip/rosehip/codec/BerReader", "<init>", "([BII)V"⟩ : MethodName)) rfl hown (mvT hZ (hw _ (List.mem_of_getElem? (i := 11) rfl))) (mvT hZ (hw _ (List.mem_of_getElem? (i := 12) rfl))) (mvT hZ (hw _ (List.mem_of_getElem? (i := 13) rfl))) (by decide) (backOf (W := 0) (rm3 l Z a0 hw [] a1 a2 (0 : Int32) z_a2 u1 u2 u3 h0 n0 Z0 E1 F1 g_a1 F2 F3) hZ (hw _ (List.mem_of_getElem? (i := 13) rfl)) (hw _ (List.mem_of_getElem? (i := 7) rfl)) (by decide) (by decide)) (g := (mkF m 5 #[.val (.ref a1), .val (.ref a2)] [(.int z_a2), (.int (0 : Int32)), (.ref a2), (.ref a1)])) rfl (by rw [hml]; rfl) (Steps.refl _) (a := a1) (argsL := [(.ref a2), (.int (0 : Int32)), (.int z_a2)]) (rest := []) (lenOf pd_2_2 rfl) rfl (by show 2 * 0 + _ ≤ _; exact Nat.le_of_eq rfl) (hb hby d2_5) (fun _ _ => ⟨rfl, e0, (by decide : 0 + 0 ≤ _), (by decide : 0 + 0 ≤ _)⟩)
  dsimp only [Pt.U, Pt.locs, Pt.cells, Pt.slots] at X3 l3 y3 z3 st3 hQ3
  subst l3 y3 z3
  obtain ⟨rfl, N3q, KQ3', E3q, Fb3q, Fp3q, Fl3q⟩ := hQ3
  have N3 := Fr.app N0 N3q
  have KQ3 : Keep h0 T3.heap [a1] := KQ3'
  have K3 : Keep h0 T3.heap [a1] := (Keep.refl h0 [a1]).trans KQ3 (allS (Or.inl (List.mem_of_getElem? (i := 0) rfl)) all0)
  obtain ⟨fs, hr, hrun, hended, hW, hsame⟩ := X3.leave (v := none) (fun _ => rfl)
  refine ⟨_, _, pre0 _ ?_, hrun, hended, _, _, rfl, ?_, ⟨_, rfl⟩, hW, hsame.mono (by decide) (by decide)⟩
  -- 4. STEPS
  · show Steps p.tables e below (s₁.setTop (mkF m 0 #[.val (.ref a1), .val (.ref a2)] [])) _
    refine XS.aloadN X0.here hx rfl (hb hby d2_0) rfl rfl ?_
    show Steps p.tables e below (s₁.setTop (mkF m 1 #[.val (.ref a1), .val (.ref a2)] [(.ref a1)])) _
    refine XS.aloadN X0.here hx rfl (hb hby d2_1) rfl rfl ?_
    show Steps p.tables e below (s₁.setTop (mkF m 2 #[.val (.ref a1), .val (.ref a2)] [(.ref a2), (.ref a1)])) _
    refine XS.iconst X0.here hx rfl (hb hby d2_2) ?_
    show Steps p.tables e below (s₁.setTop (mkF m 3 #[.val (.ref a1), .val (.ref a2)] [(.int (0 : Int32)), (.ref a2), (.ref a1)])) _
    refine XS.aloadN X0.here hx rfl (hb hby d2_3) rfl rfl ?_
    show Steps p.tables e below (s₁.setTop (mkF m 4 #[.val (.ref a1), .val (.ref a2)] [(.ref a2), (.int (0 : Int32)), (.ref a2), (.ref a1)])) _
    refine X0.arraylength hx (by rw [e0]; exact Ar_a2.1) (State.isArrayOf_alike hZ.alike Ar_a2.2.1) (g := (mkF m 4 #[.val (.ref a1), .val (.ref a2)] [(.ref a2), (.int (0 : Int32)), (.ref a2), (.ref a1)])) rfl rfl (hb hby d2_4) _ ?_
    rw [len_of S_a2 N_a2]
    show Steps p.tables e below (s₁.setTop (mkF m 5 #[.val (.ref a1), .val (.ref a2)] [(.int z_a2), (.int (0 : Int32)), (.ref a2), (.ref a1)])) _
    refine st3.trans ?_
    show Steps p.tables e below (T3.setTop (mkF m 8 #[.val (.ref a1), .val (.ref a2)] [])) _
    exact X3.returnOut hx Bd.returns (hb hby d2_8) hr
  · show QR Z a1 a2 (0 : Int32) z_a2 h0 n0 _ T3.heap _
    exact ⟨rfl, N3, K3, E3q, Fb3q, Fp3q, Fl3q⟩
set_option maxRecDepth 65536 in
set_option maxHeartbeats 40000000 in
theorem rm2 (l : Launch) (Z : State) (a0 : Array Value) (hw : ∀ d ∈ tables_1, d.before a0 Z = true) (ws : List Jvm.Cond) (a1 : Addr) (a2 : Addr) (n : Int32) (u1 : Value) (u2 : Value) (u3 : Value) (h0 : Heap) (n0 : Nat) (Z0 : n0 ≤ h0.size) (E1 : Exa Z h0 a1 "com/example/rosehip/rosehip/codec/BerReader") (F1 : Fld Z h0 a1 "com/example/rosehip/rosehip/codec/BerReader" "bytes" "[B" u1) (g_a1 : n0 ≤ a1) (F2 : Fld Z h0 a1 "com/example/rosehip/rosehip/codec/BerReader" "position" "I" u2) (F3 : Fld Z h0 a1 "com/example/rosehip/rosehip/codec/BerReader" "limit" "I" u3) (B : By Z h0 a2 n) :
    MetFree l (⟨"com/example/rosehip/rosehip/codec/BerReader", "<init>", "([B)V"⟩ : MethodName) (head1 (Jvm.Cond.code (⟨"com/example/rosehip/rosehip/codec/BerReader", "<init>", "([B)V"⟩ : MethodName) prog_7_method_1_code 2 none :: ws) ({ frames := 2, cells := 0, slots := 0, locals := 27 } : Room)) (fun a U => a = #[(.ref a1), (.ref a2)] ∧ Z.Warmed39 U.vm ∧ U.heap = h0) (fun _ _ _ _ _ => True) (fun _ U o U' => ∃ v L, o = .returned v ∧ QR Z a1 a2 (0 : Int32) n h0 n0 v U'.heap L ∧ FrameEnd U o U' L ({ frames := 2, cells := 0, slots := 0, locals := 27 } : Room).cells ({ frames := 2, cells := 0, slots := 0, locals := 27 } : Room).slots) := by
  obtain ⟨c, A, S, N⟩ := B
  exact rm2_ l Z a0 hw ws a1 a2 c n u1 u2 u3 h0 n0 Z0 E1 F1 g_a1 F2 F3 A S N
theorem d5_0 : decode prog_7_method_4_code 0 = .ok (.aload_n 0, 1) := by decide +kernel
theorem d5_1 : decode prog_7_method_4_code 1 = .ok (.getfield 18, 3) := by decide +kernel
theorem d5_4 : decode prog_7_method_4_code 4 = .ok (.aload_n 0, 1) := by decide +kernel
theorem d5_5 : decode prog_7_method_4_code 5 = .ok (.getfield 22, 3) := by decide +kernel
theorem d5_8 : decode prog_7_method_4_code 8 = .ok (.if_icmp .ge 7, 3) := by decide +kernel
theorem d5_15 : decode prog_7_method_4_code 15 = .ok (.iconst 0, 1) := by decide +kernel
theorem d5_16 : decode prog_7_method_4_code 16 = .ok (.ireturn, 1) := by decide +kernel
theorem pn_5 : plainName "com/example/rosehip/rosehip/codec/BerReader" = true := by first | (simp [plainName, overriddenIn]; done) | decide +kernel
theorem ef_5 (m : MethodId) (x0 : Addr) : entryFrame m #[(.ref x0)] 1 = mkF m 0 #[.val (.ref x0)] [] := by first | (simp [entryFrame, mkF, argsToLocals, Value.category]; done) | rfl
set_option maxRecDepth 65536 in
set_option maxHeartbeats 40000000 in
theorem rm5_t (l : Launch) (Z : State) (a0 : Array Value) (hw : ∀ d ∈ tables_1, d.before a0 Z = true) (ws : List Jvm.Cond) (a1 : Addr) (w2 : Int32) (w4 : Int32) (h0 : Heap) (n0 : Nat) (Z0 : n0 ≤ h0.size) (F_position_a1 : Fld Z h0 a1 "com/example/rosehip/rosehip/codec/BerReader" "position" "I" (.int w2)) (F_limit_a1 : Fld Z h0 a1 "com/example/rosehip/rosehip/codec/BerReader" "limit" "I" (.int w4)) (hc8 : ¬ (w2 < w4)) :
    MetFree l (⟨"com/example/rosehip/rosehip/codec/BerReader", "hasMore", "()Z"⟩ : MethodName) (head1 (Jvm.Cond.code (⟨"com/example/rosehip/rosehip/codec/BerReader", "hasMore", "()Z"⟩ : MethodName) prog_7_method_4_code 1 (some .boolean) :: ws) ({ frames := 0, cells := 0, slots := 0, locals := 0 } : Room)) (fun a U => a = #[(.ref a1)] ∧ Z.Warmed39 U.vm ∧ U.heap = h0) (fun _ _ _ _ _ => True) (fun _ U o U' => ∃ v L, o = .returned v ∧ QV (.int (0 : Int32)) h0 n0 v U'.heap L ∧ FrameEnd U o U' L ({ frames := 0, cells := 0, slots := 0, locals := 0 } : Room).cells ({ frames := 0, cells := 0, slots := 0, locals := 0 } : Room).slots) := by
  refine MetFree.of_bodySF (plainFor_of_name pn_5) hisR ?_
  intro p e s m args below meth c s₁ Bd hml0 hP hK
  obtain ⟨rfl, hZ, hh⟩ := hP
  have hx := Bd.exec
  have hby := Bd.bytes
  have hml : c.maxLocals = 1 := hml0
  have hown : s.vm.findClass "com/example/rosehip/rosehip/codec/BerReader" = some m.cls := findClass_of_methodNamed Bd.named
  have hnm := (name_of_methodNamed Bd.named Bd.method).1
  have X0 : Stand p l e ({ frames := 0, cells := 0, slots := 0, locals := 0 } : Room) s m #[(.ref a1)] below meth c s₁ [] 0 0 := Stand.of_body Bd
  have e0 : s₁.heap = h0 := by rw [← hh, Bd.state]; rfl
  have N0 := Fr.nil n0
  have pre0 : ∀ t, Steps p.tables e below (s₁.setTop (mkF m 0 #[.val (.ref a1)] [])) t → Steps p.tables e below (s₁.setTop (entryFrame m #[(.ref a1)] 1)) t := fun t k => castTop (ef_5 m a1) k
  -- 3. LAWS
  obtain ⟨T3, X3, e3, st3⟩ := getF X0 hx hZ hown (host := "") (Or.inl (hw _ (List.mem_of_getElem? (i := 19) rfl))) Via.refl e0 F_position_a1 (g := (mkF m 1 #[.val (.ref a1)] [(.ref a1)])) rfl rfl (hb hby d5_1)
  obtain ⟨T5, X5, e5, st5⟩ := getF X3 hx hZ hown (host := "") (Or.inl (hw _ (List.mem_of_getElem? (i := 21) rfl))) Via.refl e3 F_limit_a1 (g := (mkF m 5 #[.val (.ref a1)] [(.ref a1), (.int w2)])) rfl rfl (hb hby d5_5)
  obtain ⟨fs, hr, hrun, hended, hW, hsame⟩ := X5.leave (v := some (.int (0 : Int32))) (fun h => by rw [Bd.returns] at h; cases h)
  refine ⟨_, _, pre0 _ ?_, hrun, hended, _, _, rfl, ?_, ⟨_, rfl⟩, hW, hsame.mono (by decide) (by decide)⟩
  -- 4. STEPS
  · show Steps p.tables e below (s₁.setTop (mkF m 0 #[.val (.ref a1)] [])) _
    refine XS.aloadN X0.here hx rfl (hb hby d5_0) rfl rfl ?_
    show Steps p.tables e below (s₁.setTop (mkF m 1 #[.val (.ref a1)] [(.ref a1)])) _
    refine st3 _ ?_
    show Steps p.tables e below (T3.setTop (mkF m 4 #[.val (.ref a1)] [(.int w2)])) _
    refine XS.aloadN X3.here hx rfl (hb hby d5_4) rfl rfl ?_
    show Steps p.tables e below (T3.setTop (mkF m 5 #[.val (.ref a1)] [(.ref a1), (.int w2)])) _
    refine st5 _ ?_
    show Steps p.tables e below (T5.setTop (mkF m 8 #[.val (.ref a1)] [(.int w4), (.int w2)])) _
    refine XS.icmpYes X5.here hx rfl (pc0 := 8) (pc' := 15) rfl (hb hby d5_8) rfl (flt hc8).2.1 (by decide) (by decide) ?_
    show Steps p.tables e below (T5.setTop (mkF m 15 #[.val (.ref a1)] [])) _
    refine XS.iconst X5.here hx rfl (hb hby d5_15) ?_
    show Steps p.tables e below (T5.setTop (mkF m 16 #[.val (.ref a1)] [(.int (0 : Int32))])) _
    exact retN X5 hx (t := .boolean) Bd.returns (by simp) (hb hby d5_16) hr
  · show QV (.int (0 : Int32)) h0 n0 _ T5.heap _
    rw [e5]
    exact ⟨rfl, N0, rfl⟩
theorem d5_11 : decode prog_7_method_4_code 11 = .ok (.iconst 1, 1) := by decide +kernel
theorem d5_12 : decode prog_7_method_4_code 12 = .ok (.goto 4, 3) := by decide +kernel
set_option maxRecDepth 65536 in
set_option maxHeartbeats 40000000 in
theorem rm5_f (l : Launch) (Z : State) (a0 : Array Value) (hw : ∀ d ∈ tables_1, d.before a0 Z = true) (ws : List Jvm.Cond) (a1 : Addr) (w2 : Int32) (w4 : Int32) (h0 : Heap) (n0 : Nat) (Z0 : n0 ≤ h0.size) (F_position_a1 : Fld Z h0 a1 "com/example/rosehip/rosehip/codec/BerReader" "position" "I" (.int w2)) (F_limit_a1 : Fld Z h0 a1 "com/example/rosehip/rosehip/codec/BerReader" "limit" "I" (.int w4)) (hc8 : w2 < w4) :
    MetFree l (⟨"com/example/rosehip/rosehip/codec/BerReader", "hasMore", "()Z"⟩ : MethodName) (head1 (Jvm.Cond.code (⟨"com/example/rosehip/rosehip/codec/BerReader", "hasMore", "()Z"⟩ : MethodName) prog_7_method_4_code 1 (some .boolean) :: ws) ({ frames := 0, cells := 0, slots := 0, locals := 0 } : Room)) (fun a U => a = #[(.ref a1)] ∧ Z.Warmed39 U.vm ∧ U.heap = h0) (fun _ _ _ _ _ => True) (fun _ U o U' => ∃ v L, o = .returned v ∧ QV (.int (1 : Int32)) h0 n0 v U'.heap L ∧ FrameEnd U o U' L ({ frames := 0, cells := 0, slots := 0, locals := 0 } : Room).cells ({ frames := 0, cells := 0, slots := 0, locals := 0 } : Room).slots) := by
  refine MetFree.of_bodySF (plainFor_of_name pn_5) hisR ?_
  intro p e s m args below meth c s₁ Bd hml0 hP hK
  obtain ⟨rfl, hZ, hh⟩ := hP
  have hx := Bd.exec
  have hby := Bd.bytes
  have hml : c.maxLocals = 1 := hml0
  have hown : s.vm.findClass "com/example/rosehip/rosehip/codec/BerReader" = some m.cls := findClass_of_methodNamed Bd.named
  have hnm := (name_of_methodNamed Bd.named Bd.method).1
  have X0 : Stand p l e ({ frames := 0, cells := 0, slots := 0, locals := 0 } : Room) s m #[(.ref a1)] below meth c s₁ [] 0 0 := Stand.of_body Bd
  have e0 : s₁.heap = h0 := by rw [← hh, Bd.state]; rfl
  have N0 := Fr.nil n0
  have pre0 : ∀ t, Steps p.tables e below (s₁.setTop (mkF m 0 #[.val (.ref a1)] [])) t → Steps p.tables e below (s₁.setTop (entryFrame m #[(.ref a1)] 1)) t := fun t k => castTop (ef_5 m a1) k
  -- 3. LAWS
  obtain ⟨T3, X3, e3, st3⟩ := getF X0 hx hZ hown (host := "") (Or.inl (hw _ (List.mem_of_getElem? (i := 19) rfl))) Via.refl e0 F_position_a1 (g := (mkF m 1 #[.val (.ref a1)] [(.ref a1)])) rfl rfl (hb hby d5_1)
  obtain ⟨T5, X5, e5, st5⟩ := getF X3 hx hZ hown (host := "") (Or.inl (hw _ (List.mem_of_getElem? (i := 21) rfl))) Via.refl e3 F_limit_a1 (g := (mkF m 5 #[.val (.ref a1)] [(.ref a1), (.int w2)])) rfl rfl (hb hby d5_5)
  obtain ⟨fs, hr, hrun, hended, hW, hsame⟩ := X5.leave (v := some (.int (1 : Int32))) (fun h => by rw [Bd.returns] at h; cases h)
  refine ⟨_, _, pre0 _ ?_, hrun, hended, _, _, rfl, ?_, ⟨_, rfl⟩, hW, hsame.mono (by decide) (by decide)⟩
  -- 4. STEPS
  · show Steps p.tables e below (s₁.setTop (mkF m 0 #[.val (.ref a1)] [])) _
    refine XS.aloadN X0.here hx rfl (hb hby d5_0) rfl rfl ?_
    show Steps p.tables e below (s₁.setTop (mkF m 1 #[.val (.ref a1)] [(.ref a1)])) _
    refine st3 _ ?_
    show Steps p.tables e below (T3.setTop (mkF m 4 #[.val (.ref a1)] [(.int w2)])) _
    refine XS.aloadN X3.here hx rfl (hb hby d5_4) rfl rfl ?_
    show Steps p.tables e below (T3.setTop (mkF m 5 #[.val (.ref a1)] [(.ref a1), (.int w2)])) _
    refine st5 _ ?_
    show Steps p.tables e below (T5.setTop (mkF m 8 #[.val (.ref a1)] [(.int w4), (.int w2)])) _
    refine XS.icmpNo X5.here hx rfl (hb hby d5_8) rfl (tlt hc8).2.1 ?_
    show Steps p.tables e below (T5.setTop (mkF m 11 #[.val (.ref a1)] [])) _
    refine XS.iconst X5.here hx rfl (hb hby d5_11) ?_
    show Steps p.tables e below (T5.setTop (mkF m 12 #[.val (.ref a1)] [(.int (1 : Int32))])) _
    refine XS.goto X5.here hx rfl (pc0 := 12) (pc' := 16) rfl (hb hby d5_12) (by decide) (by decide) ?_
    show Steps p.tables e below (T5.setTop (mkF m 16 #[.val (.ref a1)] [(.int (1 : Int32))])) _
    exact retN X5 hx (t := .boolean) Bd.returns (by simp) (hb hby d5_16) hr
  · show QV (.int (1 : Int32)) h0 n0 _ T5.heap _
    rw [e5]
    exact ⟨rfl, N0, rfl⟩
def fv5 (x n : Int32) : Int32 := if x < n then (1 : Int32) else (0 : Int32)
set_option maxRecDepth 65536 in
set_option maxHeartbeats 40000000 in
theorem rm5 (l : Launch) (Z : State) (a0 : Array Value) (hw : ∀ d ∈ tables_1, d.before a0 Z = true) (ws : List Jvm.Cond) (a1 : Addr) (w2 : Int32) (w4 : Int32) (h0 : Heap) (n0 : Nat) (Z0 : n0 ≤ h0.size) (F1 : Fld Z h0 a1 "com/example/rosehip/rosehip/codec/BerReader" "position" "I" (.int w2)) (F2 : Fld Z h0 a1 "com/example/rosehip/rosehip/codec/BerReader" "limit" "I" (.int w4)) :
    MetFree l (⟨"com/example/rosehip/rosehip/codec/BerReader", "hasMore", "()Z"⟩ : MethodName) (head1 (Jvm.Cond.code (⟨"com/example/rosehip/rosehip/codec/BerReader", "hasMore", "()Z"⟩ : MethodName) prog_7_method_4_code 1 (some .boolean) :: ws) ({ frames := 0, cells := 0, slots := 0, locals := 0 } : Room)) (fun a U => a = #[(.ref a1)] ∧ Z.Warmed39 U.vm ∧ U.heap = h0) (fun _ _ _ _ _ => True) (fun _ U o U' => ∃ v L, o = .returned v ∧ QV (.int (fv5 w2 w4)) h0 n0 v U'.heap L ∧ FrameEnd U o U' L ({ frames := 0, cells := 0, slots := 0, locals := 0 } : Room).cells ({ frames := 0, cells := 0, slots := 0, locals := 0 } : Room).slots) := by
  unfold fv5
  by_cases h : w2 < w4
  · rw [if_pos h]; exact rm5_f l Z a0 hw ws a1 w2 w4 h0 n0 Z0 F1 F2 h
  · rw [if_neg h]; exact rm5_t l Z a0 hw ws a1 w2 w4 h0 n0 Z0 F1 F2 h
theorem d9_0 : decode jdk_30_method_1_code 0 = .ok (.aload_n 0, 1) := by decide +kernel
theorem d9_1 : decode jdk_30_method_1_code 1 = .ok (.invokespecial 1, 3) := by decide +kernel
theorem d9_4 : decode jdk_30_method_1_code 4 = .ok (.return_, 1) := by decide +kernel
theorem pn_9 : plainName "java/lang/Record" = true := by first | (simp [plainName, overriddenIn]; done) | decide +kernel
theorem ef_9 (m : MethodId) (x0 : Addr) : entryFrame m #[(.ref x0)] 1 = mkF m 0 #[.val (.ref x0)] [] := by first | (simp [entryFrame, mkF, argsToLocals, Value.category]; done) | rfl
set_option maxRecDepth 65536 in
set_option maxHeartbeats 40000000 in
theorem rm9 (l : Launch) (Z : State) (a0 : Array Value) (hw : ∀ d ∈ tables_1, d.before a0 Z = true) (ws : List Jvm.Cond) (a1 : Addr) (h0 : Heap) (n0 : Nat) (Z0 : n0 ≤ h0.size) :
    MetFree l (⟨"java/lang/Record", "<init>", "()V"⟩ : MethodName) (head1 (Jvm.Cond.code (⟨"java/lang/Record", "<init>", "()V"⟩ : MethodName) jdk_30_method_1_code 1 none :: ws) ({ frames := 1, cells := 0, slots := 0, locals := 12 } : Room)) (fun a U => a = #[(.ref a1)] ∧ Z.Warmed39 U.vm ∧ U.heap = h0) (fun _ _ _ _ _ => True) (fun _ U o U' => ∃ v L, o = .returned v ∧ QN h0 n0 v U'.heap L ∧ FrameEnd U o U' L ({ frames := 1, cells := 0, slots := 0, locals := 12 } : Room).cells ({ frames := 1, cells := 0, slots := 0, locals := 12 } : Room).slots) := by
  refine MetFree.of_bodySF (plainFor_of_name pn_9) hisR ?_
  intro p e s m args below meth c s₁ Bd hml0 hP hK
  obtain ⟨rfl, hZ, hh⟩ := hP
  have hx := Bd.exec
  have hby := Bd.bytes
  have hml : c.maxLocals = 1 := hml0
  have hown : s.vm.findClass "java/lang/Record" = some m.cls := findClass_of_methodNamed Bd.named
  have hnm := (name_of_methodNamed Bd.named Bd.method).1
  have X0 : Stand p l e ({ frames := 1, cells := 0, slots := 0, locals := 12 } : Room) s m #[(.ref a1)] below meth c s₁ [] 0 0 := Stand.of_body Bd
  have e0 : s₁.heap = h0 := by rw [← hh, Bd.state]; rfl
  have N0 := Fr.nil n0
  have pre0 : ∀ t, Steps p.tables e below (s₁.setTop (mkF m 0 #[.val (.ref a1)] [])) t → Steps p.tables e below (s₁.setTop (entryFrame m #[(.ref a1)] 1)) t := fun t k => castTop (ef_9 m a1) k
  -- 3. LAWS
  obtain ⟨T2, X2, e2, st2⟩ := initO X0 hx hZ hown (hw _ (List.mem_of_getElem? (i := 50) rfl)) (hw _ (List.mem_of_getElem? (i := 15) rfl)) (hw _ (List.mem_of_getElem? (i := 16) rfl)) e0 (g := (mkF m 1 #[.val (.ref a1)] [(.ref a1)])) rfl (by rw [hml]; rfl) rfl (hb hby d9_1) (by decide) (W := 0) (by show 2 * 0 + _ ≤ _; exact Nat.le_of_eq rfl) (by decide)
  obtain ⟨fs, hr, hrun, hended, hW, hsame⟩ := X2.leave (v := none) (fun _ => rfl)
  refine ⟨_, _, pre0 _ ?_, hrun, hended, _, _, rfl, ?_, ⟨_, rfl⟩, hW, hsame.mono (by decide) (by decide)⟩
  -- 4. STEPS
  · show Steps p.tables e below (s₁.setTop (mkF m 0 #[.val (.ref a1)] [])) _
    refine XS.aloadN X0.here hx rfl (hb hby d9_0) rfl rfl ?_
    show Steps p.tables e below (s₁.setTop (mkF m 1 #[.val (.ref a1)] [(.ref a1)])) _
    refine st2 _ ?_
    show Steps p.tables e below (T2.setTop (mkF m 4 #[.val (.ref a1)] [])) _
    exact X2.returnOut hx Bd.returns (hb hby d9_4) hr
  · show QN h0 n0 _ T2.heap _
    rw [e2]
    exact ⟨rfl, N0, rfl⟩
theorem d8_0 : decode prog_9_method_1_code 0 = .ok (.aload_n 0, 1) := by decide +kernel
theorem d8_1 : decode prog_9_method_1_code 1 = .ok (.invokespecial 1, 3) := by decide +kernel
theorem d8_4 : decode prog_9_method_1_code 4 = .ok (.aload_n 0, 1) := by decide +kernel
theorem d8_5 : decode prog_9_method_1_code 5 = .ok (.iload_n 1, 1) := by decide +kernel
theorem d8_6 : decode prog_9_method_1_code 6 = .ok (.putfield 7, 3) := by decide +kernel
theorem d8_9 : decode prog_9_method_1_code 9 = .ok (.aload_n 0, 1) := by decide +kernel
theorem d8_10 : decode prog_9_method_1_code 10 = .ok (.lload_n 2, 1) := by decide +kernel
theorem d8_11 : decode prog_9_method_1_code 11 = .ok (.putfield 13, 3) := by decide +kernel
theorem d8_14 : decode prog_9_method_1_code 14 = .ok (.aload_n 0, 1) := by decide +kernel
theorem d8_15 : decode prog_9_method_1_code 15 = .ok (.iload 4, 2) := by decide +kernel
theorem d8_17 : decode prog_9_method_1_code 17 = .ok (.putfield 17, 3) := by decide +kernel
theorem d8_20 : decode prog_9_method_1_code 20 = .ok (.return_, 1) := by decide +kernel
theorem pn_8 : plainName "com/example/rosehip/rosehip/codec/BerReader$Header" = true := by first | (simp [plainName, overriddenIn]; done) | decide +kernel
theorem pd_8_3 : parseMethodDescriptor "()V" = some ⟨[], none⟩ := by decide +kernel
theorem ef_8 (m : MethodId) (x0 : Addr) (x1 : Int32) (x2 : Int64) (x3 : Int32) : entryFrame m #[(.ref x0), (.int x1), (.long x2), (.int x3)] 5 = mkF m 0 #[.val (.ref x0), .val (.int x1), .val (.long x2), .second, .val (.int x3)] [] := by first | (simp [entryFrame, mkF, argsToLocals, Value.category]; done) | rfl
set_option maxRecDepth 65536 in
set_option maxHeartbeats 40000000 in
theorem rm8 (l : Launch) (Z : State) (a0 : Array Value) (hw : ∀ d ∈ tables_1, d.before a0 Z = true) (ws : List Jvm.Cond) (a1 : Addr) (p2 : Int32) (q3 : Int64) (p4 : Int32) (u_identifier_a1 : Value) (u_length_a1 : Value) (u_contentStart_a1 : Value) (h0 : Heap) (n0 : Nat) (Z0 : n0 ≤ h0.size) (E_a1 : Exa Z h0 a1 "com/example/rosehip/rosehip/codec/BerReader$Header") (F_identifier_a1 : Fld Z h0 a1 "com/example/rosehip/rosehip/codec/BerReader$Header" "identifier" "I" u_identifier_a1) (g_a1 : n0 ≤ a1) (F_length_a1 : Fld Z h0 a1 "com/example/rosehip/rosehip/codec/BerReader$Header" "length" "J" u_length_a1) (F_contentStart_a1 : Fld Z h0 a1 "com/example/rosehip/rosehip/codec/BerReader$Header" "contentStart" "I" u_contentStart_a1) :
    MetFree l (⟨"com/example/rosehip/rosehip/codec/BerReader$Header", "<init>", "(IJI)V"⟩ : MethodName) (head1 (Jvm.Cond.code (⟨"com/example/rosehip/rosehip/codec/BerReader$Header", "<init>", "(IJI)V"⟩ : MethodName) prog_9_method_1_code 5 none :: ws) ({ frames := 2, cells := 0, slots := 0, locals := 24 } : Room)) (fun a U => a = #[(.ref a1), (.int p2), (.long q3), (.int p4)] ∧ Z.Warmed39 U.vm ∧ U.heap = h0) (fun _ _ _ _ _ => True) (fun _ U o U' => ∃ v L, o = .returned v ∧ QH Z a1 p2 q3 p4 h0 n0 v U'.heap L ∧ FrameEnd U o U' L ({ frames := 2, cells := 0, slots := 0, locals := 24 } : Room).cells ({ frames := 2, cells := 0, slots := 0, locals := 24 } : Room).slots) := by
  refine MetFree.of_bodySF (plainFor_of_name pn_8) hisR ?_
  intro p e s m args below meth c s₁ Bd hml0 hP hK
  obtain ⟨rfl, hZ, hh⟩ := hP
  have hx := Bd.exec
  have hby := Bd.bytes
  have hml : c.maxLocals = 5 := hml0
  have hown : s.vm.findClass "com/example/rosehip/rosehip/codec/BerReader$Header" = some m.cls := findClass_of_methodNamed Bd.named
  have hnm := (name_of_methodNamed Bd.named Bd.method).1
  have X0 : Stand p l e ({ frames := 2, cells := 0, slots := 0, locals := 24 } : Room) s m #[(.ref a1), (.int p2), (.long q3), (.int p4)] below meth c s₁ [] 0 0 := Stand.of_body Bd
  have e0 : s₁.heap = h0 := by rw [← hh, Bd.state]; rfl
  have N0 := Fr.nil n0
  have pre0 : ∀ t, Steps p.tables e below (s₁.setTop (mkF m 0 #[.val (.ref a1), .val (.int p2), .val (.long q3), .second, .val (.int p4)] [])) t → Steps p.tables e below (s₁.setTop (entryFrame m #[(.ref a1), (.int p2), (.long q3), (.int p4)] 5)) t := fun t k => castTop (ef_8 m a1 p2 q3 p4) k
  -- 3. LAWS
  -- pc 1: the constructor of java/lang/Record by its contract rm9
  obtain ⟨_, _, ⟨T5, L5, k5, n5⟩, -, X5, ⟨Lc5, hQ5, l5, y5, z5⟩, st5⟩ := X0.specialBack hx (y := (⟨"java/lang/Record", "<init>", "()V"⟩ : MethodName)) rfl hown (mvT hZ (hw _ (List.mem_of_getElem? (i := 45) rfl))) (mvT hZ (hw _ (List.mem_of_getElem? (i := 46) rfl))) (mvT hZ (hw _ (List.mem_of_getElem? (i := 49) rfl))) (by decide) (backOf (W := 0) (rm9 l Z a0 hw [] a1 h0 n0 Z0) hZ (hw _ (List.mem_of_getElem? (i := 49) rfl)) (hw _ (List.mem_of_getElem? (i := 48) rfl)) (by decide) (by decide)) (g := (mkF m 1 #[.val (.ref a1), .val (.int p2), .val (.long q3), .second, .val (.int p4)] [(.ref a1)])) rfl (by rw [hml]; rfl) (Steps.refl _) (a := a1) (argsL := []) (rest := []) (lenOf pd_8_3 rfl) rfl (by show 2 * 0 + _ ≤ _; exact Nat.le_of_eq rfl) (hb hby d8_1) (fun _ _ => ⟨rfl, e0, (by decide : 0 + 0 ≤ _), (by decide : 0 + 0 ≤ _)⟩)
  dsimp only [Pt.U, Pt.locs, Pt.cells, Pt.slots] at X5 l5 y5 z5 st5 hQ5
  subst l5 y5 z5
  obtain ⟨rfl, N5q, eh5⟩ := hQ5
  have N5 := Fr.app N0 N5q
  obtain ⟨T6, h6, X6, e6, W6, st6⟩ := putF X5 hx hZ hown (host := "") (Or.inl (hw _ (List.mem_of_getElem? (i := 51) rfl))) Via.refl eh5 F_identifier_a1 E_a1 (Or.inr ⟨(hw _ (List.mem_of_getElem? (i := 52) rfl)), rfl, hnm⟩) (hw _ (List.mem_of_getElem? (i := 40) rfl)) (ty := .int) (by decide) rfl rfl (g := (mkF m 6 #[.val (.ref a1), .val (.int p2), .val (.long q3), .second, .val (.int p4)] [(.int p2), (.ref a1)])) rfl rfl (hb hby d8_6)
  have Fw6 := F_identifier_a1.same W6      -- the field now holds (.int p2)
  have K6 : Keep h0 h6 [a1] := (Keep.refl h0 [a1]).wr W6 (Or.inl (List.mem_of_getElem? (i := 0) rfl))
  have N6 := Fr.snoc X6 N5 g_a1
  obtain ⟨T7, h7, X7, e7, W7, st7⟩ := putF X6 hx hZ hown (host := "") (Or.inl (hw _ (List.mem_of_getElem? (i := 53) rfl))) Via.refl e6 (F_length_a1.other W6 (Or.inr (slot_ne (Or.inr (hw _ (List.mem_of_getElem? (i := 54) rfl))) (Or.inr (hw _ (List.mem_of_getElem? (i := 52) rfl))) (by decide) (t := .long) (t' := .int) (by decide) (by decide)))) (E_a1.wr W6) (Or.inr ⟨(hw _ (List.mem_of_getElem? (i := 54) rfl)), rfl, hnm⟩) (hw _ (List.mem_of_getElem? (i := 40) rfl)) (ty := .long) (by decide) rfl rfl (g := (mkF m 11 #[.val (.ref a1), .val (.int p2), .val (.long q3), .second, .val (.int p4)] [(.long q3), (.ref a1)])) rfl rfl (hb hby d8_11)
  have Fw7 := (F_length_a1.other W6 (Or.inr (slot_ne (Or.inr (hw _ (List.mem_of_getElem? (i := 54) rfl))) (Or.inr (hw _ (List.mem_of_getElem? (i := 52) rfl))) (by decide) (t := .long) (t' := .int) (by decide) (by decide)))).same W7      -- the field now holds (.long q3)
  have K7 : Keep h0 h7 [a1] := K6.wr W7 (Or.inl (List.mem_of_getElem? (i := 0) rfl))
  have N7 := Fr.snoc X7 N6 g_a1
  obtain ⟨T8, h8, X8, e8, W8, st8⟩ := putF X7 hx hZ hown (host := "") (Or.inl (hw _ (List.mem_of_getElem? (i := 55) rfl))) Via.refl e7 ((F_contentStart_a1.other W6 (Or.inr (slot_ne (Or.inr (hw _ (List.mem_of_getElem? (i := 56) rfl))) (Or.inr (hw _ (List.mem_of_getElem? (i := 52) rfl))) (by decide) (t := .int) (t' := .int) (by decide) (by decide)))).other W7 (Or.inr (slot_ne (Or.inr (hw _ (List.mem_of_getElem? (i := 56) rfl))) (Or.inr (hw _ (List.mem_of_getElem? (i := 54) rfl))) (by decide) (t := .int) (t' := .long) (by decide) (by decide)))) ((E_a1.wr W6).wr W7) (Or.inr ⟨(hw _ (List.mem_of_getElem? (i := 56) rfl)), rfl, hnm⟩) (hw _ (List.mem_of_getElem? (i := 40) rfl)) (ty := .int) (by decide) rfl rfl (g := (mkF m 17 #[.val (.ref a1), .val (.int p2), .val (.long q3), .second, .val (.int p4)] [(.int p4), (.ref a1)])) rfl rfl (hb hby d8_17)
  have Fw8 := ((F_contentStart_a1.other W6 (Or.inr (slot_ne (Or.inr (hw _ (List.mem_of_getElem? (i := 56) rfl))) (Or.inr (hw _ (List.mem_of_getElem? (i := 52) rfl))) (by decide) (t := .int) (t' := .int) (by decide) (by decide)))).other W7 (Or.inr (slot_ne (Or.inr (hw _ (List.mem_of_getElem? (i := 56) rfl))) (Or.inr (hw _ (List.mem_of_getElem? (i := 54) rfl))) (by decide) (t := .int) (t' := .long) (by decide) (by decide)))).same W8      -- the field now holds (.int p4)
  have K8 : Keep h0 h8 [a1] := K7.wr W8 (Or.inl (List.mem_of_getElem? (i := 0) rfl))
  have N8 := Fr.snoc X8 N7 g_a1
  obtain ⟨fs, hr, hrun, hended, hW, hsame⟩ := X8.leave (v := none) (fun _ => rfl)
  refine ⟨_, _, pre0 _ ?_, hrun, hended, _, _, rfl, ?_, ⟨_, rfl⟩, hW, hsame.mono (by decide) (by decide)⟩
  -- 4. STEPS
  · show Steps p.tables e below (s₁.setTop (mkF m 0 #[.val (.ref a1), .val (.int p2), .val (.long q3), .second, .val (.int p4)] [])) _
    refine XS.aloadN X0.here hx rfl (hb hby d8_0) rfl rfl ?_
    show Steps p.tables e below (s₁.setTop (mkF m 1 #[.val (.ref a1), .val (.int p2), .val (.long q3), .second, .val (.int p4)] [(.ref a1)])) _
    refine st5.trans ?_
    show Steps p.tables e below (T5.setTop (mkF m 4 #[.val (.ref a1), .val (.int p2), .val (.long q3), .second, .val (.int p4)] [])) _
    refine XS.aloadN X5.here hx rfl (hb hby d8_4) rfl rfl ?_
    show Steps p.tables e below (T5.setTop (mkF m 5 #[.val (.ref a1), .val (.int p2), .val (.long q3), .second, .val (.int p4)] [(.ref a1)])) _
    refine XS.iloadN X5.here hx rfl (hb hby d8_5) rfl ?_
    show Steps p.tables e below (T5.setTop (mkF m 6 #[.val (.ref a1), .val (.int p2), .val (.long q3), .second, .val (.int p4)] [(.int p2), (.ref a1)])) _
    refine st6 _ ?_
    show Steps p.tables e below (T6.setTop (mkF m 9 #[.val (.ref a1), .val (.int p2), .val (.long q3), .second, .val (.int p4)] [])) _
    refine XS.aloadN X6.here hx rfl (hb hby d8_9) rfl rfl ?_
    show Steps p.tables e below (T6.setTop (mkF m 10 #[.val (.ref a1), .val (.int p2), .val (.long q3), .second, .val (.int p4)] [(.ref a1)])) _
    refine XS.lloadN X6.here hx rfl (hb hby d8_10) rfl ?_
    show Steps p.tables e below (T6.setTop (mkF m 11 #[.val (.ref a1), .val (.int p2), .val (.long q3), .second, .val (.int p4)] [(.long q3), (.ref a1)])) _
    refine st7 _ ?_
    show Steps p.tables e below (T7.setTop (mkF m 14 #[.val (.ref a1), .val (.int p2), .val (.long q3), .second, .val (.int p4)] [])) _
    refine XS.aloadN X7.here hx rfl (hb hby d8_14) rfl rfl ?_
    show Steps p.tables e below (T7.setTop (mkF m 15 #[.val (.ref a1), .val (.int p2), .val (.long q3), .second, .val (.int p4)] [(.ref a1)])) _
    refine XS.iload X7.here hx rfl (hb hby d8_15) rfl ?_
    show Steps p.tables e below (T7.setTop (mkF m 17 #[.val (.ref a1), .val (.int p2), .val (.long q3), .second, .val (.int p4)] [(.int p4), (.ref a1)])) _
    refine st8 _ ?_
    show Steps p.tables e below (T8.setTop (mkF m 20 #[.val (.ref a1), .val (.int p2), .val (.long q3), .second, .val (.int p4)] [])) _
    exact X8.returnOut hx Bd.returns (hb hby d8_20) hr
  · show QH Z a1 p2 q3 p4 h0 n0 _ T8.heap _
    rw [e8]
    exact ⟨rfl, N8, K8, (((E_a1.wr W6).wr W7).wr W8), ((Fw6.other W7 (Or.inr (slot_ne (Or.inr (hw _ (List.mem_of_getElem? (i := 52) rfl))) (Or.inr (hw _ (List.mem_of_getElem? (i := 54) rfl))) (by decide) (t := .int) (t' := .long) (by decide) (by decide)))).other W8 (Or.inr (slot_ne (Or.inr (hw _ (List.mem_of_getElem? (i := 52) rfl))) (Or.inr (hw _ (List.mem_of_getElem? (i := 56) rfl))) (by decide) (t := .int) (t' := .int) (by decide) (by decide)))), (Fw7.other W8 (Or.inr (slot_ne (Or.inr (hw _ (List.mem_of_getElem? (i := 54) rfl))) (Or.inr (hw _ (List.mem_of_getElem? (i := 56) rfl))) (by decide) (t := .long) (t' := .int) (by decide) (by decide)))), Fw8⟩
theorem d13_0 : decode prog_8_method_1_code 0 = .ok (.aload_n 0, 1) := by decide +kernel
theorem d13_1 : decode prog_8_method_1_code 1 = .ok (.invokespecial 1, 3) := by decide +kernel
theorem d13_4 : decode prog_8_method_1_code 4 = .ok (.aload_n 0, 1) := by decide +kernel
theorem d13_5 : decode prog_8_method_1_code 5 = .ok (.iload_n 1, 1) := by decide +kernel
theorem d13_6 : decode prog_8_method_1_code 6 = .ok (.putfield 7, 3) := by decide +kernel
theorem d13_9 : decode prog_8_method_1_code 9 = .ok (.aload_n 0, 1) := by decide +kernel
theorem d13_10 : decode prog_8_method_1_code 10 = .ok (.iload_n 2, 1) := by decide +kernel
theorem d13_11 : decode prog_8_method_1_code 11 = .ok (.putfield 13, 3) := by decide +kernel
theorem d13_14 : decode prog_8_method_1_code 14 = .ok (.aload_n 0, 1) := by decide +kernel
theorem d13_15 : decode prog_8_method_1_code 15 = .ok (.iload_n 3, 1) := by decide +kernel
theorem d13_16 : decode prog_8_method_1_code 16 = .ok (.putfield 16, 3) := by decide +kernel
theorem d13_19 : decode prog_8_method_1_code 19 = .ok (.aload_n 0, 1) := by decide +kernel
theorem d13_20 : decode prog_8_method_1_code 20 = .ok (.iload 4, 2) := by decide +kernel
theorem d13_22 : decode prog_8_method_1_code 22 = .ok (.putfield 19, 3) := by decide +kernel
theorem d13_25 : decode prog_8_method_1_code 25 = .ok (.aload_n 0, 1) := by decide +kernel
theorem d13_26 : decode prog_8_method_1_code 26 = .ok (.iload 5, 2) := by decide +kernel
theorem d13_28 : decode prog_8_method_1_code 28 = .ok (.putfield 22, 3) := by decide +kernel
theorem d13_31 : decode prog_8_method_1_code 31 = .ok (.return_, 1) := by decide +kernel
theorem pn_13 : plainName "com/example/rosehip/rosehip/codec/BerReader$Element" = true := by first | (simp [plainName, overriddenIn]; done) | decide +kernel
theorem pd_13_3 : parseMethodDescriptor "()V" = some ⟨[], none⟩ := by decide +kernel
theorem ef_13 (m : MethodId) (x0 : Addr) (x1 : Int32) (x2 : Int32) (x3 : Int32) (x4 : Int32) (x5 : Int32) : entryFrame m #[(.ref x0), (.int x1), (.int x2), (.int x3), (.int x4), (.int x5)] 6 = mkF m 0 #[.val (.ref x0), .val (.int x1), .val (.int x2), .val (.int x3), .val (.int x4), .val (.int x5)] [] := by first | (simp [entryFrame, mkF, argsToLocals, Value.category]; done) | rfl
set_option maxRecDepth 65536 in
set_option maxHeartbeats 40000000 in
theorem rm13 (l : Launch) (Z : State) (a0 : Array Value) (hw : ∀ d ∈ tables_1, d.before a0 Z = true) (ws : List Jvm.Cond) (a1 : Addr) (p2 : Int32) (p3 : Int32) (p4 : Int32) (p5 : Int32) (p6 : Int32) (u_identifier_a1 : Value) (u_start_a1 : Value) (u_contentStart_a1 : Value) (u_contentEnd_a1 : Value) (u_end_a1 : Value) (h0 : Heap) (n0 : Nat) (Z0 : n0 ≤ h0.size) (E_a1 : Exa Z h0 a1 "com/example/rosehip/rosehip/codec/BerReader$Element") (F_identifier_a1 : Fld Z h0 a1 "com/example/rosehip/rosehip/codec/BerReader$Element" "identifier" "I" u_identifier_a1) (g_a1 : n0 ≤ a1) (F_start_a1 : Fld Z h0 a1 "com/example/rosehip/rosehip/codec/BerReader$Element" "start" "I" u_start_a1) (F_contentStart_a1 : Fld Z h0 a1 "com/example/rosehip/rosehip/codec/BerReader$Element" "contentStart" "I" u_contentStart_a1) (F_contentEnd_a1 : Fld Z h0 a1 "com/example/rosehip/rosehip/codec/BerReader$Element" "contentEnd" "I" u_contentEnd_a1) (F_end_a1 : Fld Z h0 a1 "com/example/rosehip/rosehip/codec/BerReader$Element" "end" "I" u_end_a1) :
    MetFree l (⟨"com/example/rosehip/rosehip/codec/BerReader$Element", "<init>", "(IIIII)V"⟩ : MethodName) (head1 (Jvm.Cond.code (⟨"com/example/rosehip/rosehip/codec/BerReader$Element", "<init>", "(IIIII)V"⟩ : MethodName) prog_8_method_1_code 6 none :: ws) ({ frames := 2, cells := 0, slots := 0, locals := 24 } : Room)) (fun a U => a = #[(.ref a1), (.int p2), (.int p3), (.int p4), (.int p5), (.int p6)] ∧ Z.Warmed39 U.vm ∧ U.heap = h0) (fun _ _ _ _ _ => True) (fun _ U o U' => ∃ v L, o = .returned v ∧ QE Z a1 p2 p3 p4 p5 p6 h0 n0 v U'.heap L ∧ FrameEnd U o U' L ({ frames := 2, cells := 0, slots := 0, locals := 24 } : Room).cells ({ frames := 2, cells := 0, slots := 0, locals := 24 } : Room).slots) := by
  refine MetFree.of_bodySF (plainFor_of_name pn_13) hisR ?_
  intro p e s m args below meth c s₁ Bd hml0 hP hK
  obtain ⟨rfl, hZ, hh⟩ := hP
  have hx := Bd.exec
  have hby := Bd.bytes
  have hml : c.maxLocals = 6 := hml0
  have hown : s.vm.findClass "com/example/rosehip/rosehip/codec/BerReader$Element" = some m.cls := findClass_of_methodNamed Bd.named
  have hnm := (name_of_methodNamed Bd.named Bd.method).1
  have X0 : Stand p l e ({ frames := 2, cells := 0, slots := 0, locals := 24 } : Room) s m #[(.ref a1), (.int p2), (.int p3), (.int p4), (.int p5), (.int p6)] below meth c s₁ [] 0 0 := Stand.of_body Bd
  have e0 : s₁.heap = h0 := by rw [← hh, Bd.state]; rfl
  have N0 := Fr.nil n0
  have pre0 : ∀ t, Steps p.tables e below (s₁.setTop (mkF m 0 #[.val (.ref a1), .val (.int p2), .val (.int p3), .val (.int p4), .val (.int p5), .val (.int p6)] [])) t → Steps p.tables e below (s₁.setTop (entryFrame m #[(.ref a1), (.int p2), (.int p3), (.int p4), (.int p5), (.int p6)] 6)) t := fun t k => castTop (ef_13 m a1 p2 p3 p4 p5 p6) k
  -- 3. LAWS
  -- pc 1: the constructor of java/lang/Record by its contract rm9
  obtain ⟨_, _, ⟨T7, L7, k7, n7⟩, -, X7, ⟨Lc7, hQ7, l7, y7, z7⟩, st7⟩ := X0.specialBack hx (y := (⟨"java/lang/Record", "<init>", "()V"⟩ : MethodName)) rfl hown (mvT hZ (hw _ (List.mem_of_getElem? (i := 79) rfl))) (mvT hZ (hw _ (List.mem_of_getElem? (i := 46) rfl))) (mvT hZ (hw _ (List.mem_of_getElem? (i := 49) rfl))) (by decide) (backOf (W := 0) (rm9 l Z a0 hw [] a1 h0 n0 Z0) hZ (hw _ (List.mem_of_getElem? (i := 49) rfl)) (hw _ (List.mem_of_getElem? (i := 48) rfl)) (by decide) (by decide)) (g := (mkF m 1 #[.val (.ref a1), .val (.int p2), .val (.int p3), .val (.int p4), .val (.int p5), .val (.int p6)] [(.ref a1)])) rfl (by rw [hml]; rfl) (Steps.refl _) (a := a1) (argsL := []) (rest := []) (lenOf pd_13_3 rfl) rfl (by show 2 * 0 + _ ≤ _; exact Nat.le_of_eq rfl) (hb hby d13_1) (fun _ _ => ⟨rfl, e0, (by decide : 0 + 0 ≤ _), (by decide : 0 + 0 ≤ _)⟩)
  dsimp only [Pt.U, Pt.locs, Pt.cells, Pt.slots] at X7 l7 y7 z7 st7 hQ7
  subst l7 y7 z7
  obtain ⟨rfl, N7q, eh7⟩ := hQ7
  have N7 := Fr.app N0 N7q
  obtain ⟨T8, h8, X8, e8, W8, st8⟩ := putF X7 hx hZ hown (host := "") (Or.inl (hw _ (List.mem_of_getElem? (i := 80) rfl))) Via.refl eh7 F_identifier_a1 E_a1 (Or.inr ⟨(hw _ (List.mem_of_getElem? (i := 81) rfl)), rfl, hnm⟩) (hw _ (List.mem_of_getElem? (i := 74) rfl)) (ty := .int) (by decide) rfl rfl (g := (mkF m 6 #[.val (.ref a1), .val (.int p2), .val (.int p3), .val (.int p4), .val (.int p5), .val (.int p6)] [(.int p2), (.ref a1)])) rfl rfl (hb hby d13_6)
  have Fw8 := F_identifier_a1.same W8      -- the field now holds (.int p2)
  have K8 : Keep h0 h8 [a1] := (Keep.refl h0 [a1]).wr W8 (Or.inl (List.mem_of_getElem? (i := 0) rfl))
  have N8 := Fr.snoc X8 N7 g_a1
  obtain ⟨T9, h9, X9, e9, W9, st9⟩ := putF X8 hx hZ hown (host := "") (Or.inl (hw _ (List.mem_of_getElem? (i := 82) rfl))) Via.refl e8 (F_start_a1.other W8 (Or.inr (slot_ne (Or.inr (hw _ (List.mem_of_getElem? (i := 83) rfl))) (Or.inr (hw _ (List.mem_of_getElem? (i := 81) rfl))) (by decide) (t := .int) (t' := .int) (by decide) (by decide)))) (E_a1.wr W8) (Or.inr ⟨(hw _ (List.mem_of_getElem? (i := 83) rfl)), rfl, hnm⟩) (hw _ (List.mem_of_getElem? (i := 74) rfl)) (ty := .int) (by decide) rfl rfl (g := (mkF m 11 #[.val (.ref a1), .val (.int p2), .val (.int p3), .val (.int p4), .val (.int p5), .val (.int p6)] [(.int p3), (.ref a1)])) rfl rfl (hb hby d13_11)
  have Fw9 := (F_start_a1.other W8 (Or.inr (slot_ne (Or.inr (hw _ (List.mem_of_getElem? (i := 83) rfl))) (Or.inr (hw _ (List.mem_of_getElem? (i := 81) rfl))) (by decide) (t := .int) (t' := .int) (by decide) (by decide)))).same W9      -- the field now holds (.int p3)
  have K9 : Keep h0 h9 [a1] := K8.wr W9 (Or.inl (List.mem_of_getElem? (i := 0) rfl))
  have N9 := Fr.snoc X9 N8 g_a1
  obtain ⟨T10, h10, X10, e10, W10, st10⟩ := putF X9 hx hZ hown (host := "") (Or.inl (hw _ (List.mem_of_getElem? (i := 84) rfl))) Via.refl e9 ((F_contentStart_a1.other W8 (Or.inr (slot_ne (Or.inr (hw _ (List.mem_of_getElem? (i := 85) rfl))) (Or.inr (hw _ (List.mem_of_getElem? (i := 81) rfl))) (by decide) (t := .int) (t' := .int) (by decide) (by decide)))).other W9 (Or.inr (slot_ne (Or.inr (hw _ (List.mem_of_getElem? (i := 85) rfl))) (Or.inr (hw _ (List.mem_of_getElem? (i := 83) rfl))) (by decide) (t := .int) (t' := .int) (by decide) (by decide)))) ((E_a1.wr W8).wr W9) (Or.inr ⟨(hw _ (List.mem_of_getElem? (i := 85) rfl)), rfl, hnm⟩) (hw _ (List.mem_of_getElem? (i := 74) rfl)) (ty := .int) (by decide) rfl rfl (g := (mkF m 16 #[.val (.ref a1), .val (.int p2), .val (.int p3), .val (.int p4), .val (.int p5), .val (.int p6)] [(.int p4), (.ref a1)])) rfl rfl (hb hby d13_16)
  have Fw10 := ((F_contentStart_a1.other W8 (Or.inr (slot_ne (Or.inr (hw _ (List.mem_of_getElem? (i := 85) rfl))) (Or.inr (hw _ (List.mem_of_getElem? (i := 81) rfl))) (by decide) (t := .int) (t' := .int) (by decide) (by decide)))).other W9 (Or.inr (slot_ne (Or.inr (hw _ (List.mem_of_getElem? (i := 85) rfl))) (Or.inr (hw _ (List.mem_of_getElem? (i := 83) rfl))) (by decide) (t := .int) (t' := .int) (by decide) (by decide)))).same W10      -- the field now holds (.int p4)
  have K10 : Keep h0 h10 [a1] := K9.wr W10 (Or.inl (List.mem_of_getElem? (i := 0) rfl))
  have N10 := Fr.snoc X10 N9 g_a1
  obtain ⟨T11, h11, X11, e11, W11, st11⟩ := putF X10 hx hZ hown (host := "") (Or.inl (hw _ (List.mem_of_getElem? (i := 86) rfl))) Via.refl e10 (((F_contentEnd_a1.other W8 (Or.inr (slot_ne (Or.inr (hw _ (List.mem_of_getElem? (i := 87) rfl))) (Or.inr (hw _ (List.mem_of_getElem? (i := 81) rfl))) (by decide) (t := .int) (t' := .int) (by decide) (by decide)))).other W9 (Or.inr (slot_ne (Or.inr (hw _ (List.mem_of_getElem? (i := 87) rfl))) (Or.inr (hw _ (List.mem_of_getElem? (i := 83) rfl))) (by decide) (t := .int) (t' := .int) (by decide) (by decide)))).other W10 (Or.inr (slot_ne (Or.inr (hw _ (List.mem_of_getElem? (i := 87) rfl))) (Or.inr (hw _ (List.mem_of_getElem? (i := 85) rfl))) (by decide) (t := .int) (t' := .int) (by decide) (by decide)))) (((E_a1.wr W8).wr W9).wr W10) (Or.inr ⟨(hw _ (List.mem_of_getElem? (i := 87) rfl)), rfl, hnm⟩) (hw _ (List.mem_of_getElem? (i := 74) rfl)) (ty := .int) (by decide) rfl rfl (g := (mkF m 22 #[.val (.ref a1), .val (.int p2), .val (.int p3), .val (.int p4), .val (.int p5), .val (.int p6)] [(.int p5), (.ref a1)])) rfl rfl (hb hby d13_22)
  have Fw11 := (((F_contentEnd_a1.other W8 (Or.inr (slot_ne (Or.inr (hw _ (List.mem_of_getElem? (i := 87) rfl))) (Or.inr (hw _ (List.mem_of_getElem? (i := 81) rfl))) (by decide) (t := .int) (t' := .int) (by decide) (by decide)))).other W9 (Or.inr (slot_ne (Or.inr (hw _ (List.mem_of_getElem? (i := 87) rfl))) (Or.inr (hw _ (List.mem_of_getElem? (i := 83) rfl))) (by decide) (t := .int) (t' := .int) (by decide) (by decide)))).other W10 (Or.inr (slot_ne (Or.inr (hw _ (List.mem_of_getElem? (i := 87) rfl))) (Or.inr (hw _ (List.mem_of_getElem? (i := 85) rfl))) (by decide) (t := .int) (t' := .int) (by decide) (by decide)))).same W11      -- the field now holds (.int p5)
  have K11 : Keep h0 h11 [a1] := K10.wr W11 (Or.inl (List.mem_of_getElem? (i := 0) rfl))
  have N11 := Fr.snoc X11 N10 g_a1
  obtain ⟨T12, h12, X12, e12, W12, st12⟩ := putF X11 hx hZ hown (host := "") (Or.inl (hw _ (List.mem_of_getElem? (i := 88) rfl))) Via.refl e11 ((((F_end_a1.other W8 (Or.inr (slot_ne (Or.inr (hw _ (List.mem_of_getElem? (i := 89) rfl))) (Or.inr (hw _ (List.mem_of_getElem? (i := 81) rfl))) (by decide) (t := .int) (t' := .int) (by decide) (by decide)))).other W9 (Or.inr (slot_ne (Or.inr (hw _ (List.mem_of_getElem? (i := 89) rfl))) (Or.inr (hw _ (List.mem_of_getElem? (i := 83) rfl))) (by decide) (t := .int) (t' := .int) (by decide) (by decide)))).other W10 (Or.inr (slot_ne (Or.inr (hw _ (List.mem_of_getElem? (i := 89) rfl))) (Or.inr (hw _ (List.mem_of_getElem? (i := 85) rfl))) (by decide) (t := .int) (t' := .int) (by decide) (by decide)))).other W11 (Or.inr (slot_ne (Or.inr (hw _ (List.mem_of_getElem? (i := 89) rfl))) (Or.inr (hw _ (List.mem_of_getElem? (i := 87) rfl))) (by decide) (t := .int) (t' := .int) (by decide) (by decide)))) ((((E_a1.wr W8).wr W9).wr W10).wr W11) (Or.inr ⟨(hw _ (List.mem_of_getElem? (i := 89) rfl)), rfl, hnm⟩) (hw _ (List.mem_of_getElem? (i := 74) rfl)) (ty := .int) (by decide) rfl rfl (g := (mkF m 28 #[.val (.ref a1), .val (.int p2), .val (.int p3), .val (.int p4), .val (.int p5), .val (.int p6)] [(.int p6), (.ref a1)])) rfl rfl (hb hby d13_28)
  have Fw12 := ((((F_end_a1.other W8 (Or.inr (slot_ne (Or.inr (hw _ (List.mem_of_getElem? (i := 89) rfl))) (Or.inr (hw _ (List.mem_of_getElem? (i := 81) rfl))) (by decide) (t := .int) (t' := .int) (by decide) (by decide)))).other W9 (Or.inr (slot_ne (Or.inr (hw _ (List.mem_of_getElem? (i := 89) rfl))) (Or.inr (hw _ (List.mem_of_getElem? (i := 83) rfl))) (by decide) (t := .int) (t' := .int) (by decide) (by decide)))).other W10 (Or.inr (slot_ne (Or.inr (hw _ (List.mem_of_getElem? (i := 89) rfl))) (Or.inr (hw _ (List.mem_of_getElem? (i := 85) rfl))) (by decide) (t := .int) (t' := .int) (by decide) (by decide)))).other W11 (Or.inr (slot_ne (Or.inr (hw _ (List.mem_of_getElem? (i := 89) rfl))) (Or.inr (hw _ (List.mem_of_getElem? (i := 87) rfl))) (by decide) (t := .int) (t' := .int) (by decide) (by decide)))).same W12      -- the field now holds (.int p6)
  have K12 : Keep h0 h12 [a1] := K11.wr W12 (Or.inl (List.mem_of_getElem? (i := 0) rfl))
  have N12 := Fr.snoc X12 N11 g_a1
  obtain ⟨fs, hr, hrun, hended, hW, hsame⟩ := X12.leave (v := none) (fun _ => rfl)
  refine ⟨_, _, pre0 _ ?_, hrun, hended, _, _, rfl, ?_, ⟨_, rfl⟩, hW, hsame.mono (by decide) (by decide)⟩
  -- 4. STEPS
  · show Steps p.tables e below (s₁.setTop (mkF m 0 #[.val (.ref a1), .val (.int p2), .val (.int p3), .val (.int p4), .val (.int p5), .val (.int p6)] [])) _
    refine XS.aloadN X0.here hx rfl (hb hby d13_0) rfl rfl ?_
    show Steps p.tables e below (s₁.setTop (mkF m 1 #[.val (.ref a1), .val (.int p2), .val (.int p3), .val (.int p4), .val (.int p5), .val (.int p6)] [(.ref a1)])) _
    refine st7.trans ?_
    show Steps p.tables e below (T7.setTop (mkF m 4 #[.val (.ref a1), .val (.int p2), .val (.int p3), .val (.int p4), .val (.int p5), .val (.int p6)] [])) _
    refine XS.aloadN X7.here hx rfl (hb hby d13_4) rfl rfl ?_
    show Steps p.tables e below (T7.setTop (mkF m 5 #[.val (.ref a1), .val (.int p2), .val (.int p3), .val (.int p4), .val (.int p5), .val (.int p6)] [(.ref a1)])) _
    refine XS.iloadN X7.here hx rfl (hb hby d13_5) rfl ?_
    show Steps p.tables e below (T7.setTop (mkF m 6 #[.val (.ref a1), .val (.int p2), .val (.int p3), .val (.int p4), .val (.int p5), .val (.int p6)] [(.int p2), (.ref a1)])) _
    refine st8 _ ?_
    show Steps p.tables e below (T8.setTop (mkF m 9 #[.val (.ref a1), .val (.int p2), .val (.int p3), .val (.int p4), .val (.int p5), .val (.int p6)] [])) _
    refine XS.aloadN X8.here hx rfl (hb hby d13_9) rfl rfl ?_
    show Steps p.tables e below (T8.setTop (mkF m 10 #[.val (.ref a1), .val (.int p2), .val (.int p3), .val (.int p4), .val (.int p5), .val (.int p6)] [(.ref a1)])) _
    refine XS.iloadN X8.here hx rfl (hb hby d13_10) rfl ?_
    show Steps p.tables e below (T8.setTop (mkF m 11 #[.val (.ref a1), .val (.int p2), .val (.int p3), .val (.int p4), .val (.int p5), .val (.int p6)] [(.int p3), (.ref a1)])) _
    refine st9 _ ?_
    show Steps p.tables e below (T9.setTop (mkF m 14 #[.val (.ref a1), .val (.int p2), .val (.int p3), .val (.int p4), .val (.int p5), .val (.int p6)] [])) _
    refine XS.aloadN X9.here hx rfl (hb hby d13_14) rfl rfl ?_
    show Steps p.tables e below (T9.setTop (mkF m 15 #[.val (.ref a1), .val (.int p2), .val (.int p3), .val (.int p4), .val (.int p5), .val (.int p6)] [(.ref a1)])) _
    refine XS.iloadN X9.here hx rfl (hb hby d13_15) rfl ?_
    show Steps p.tables e below (T9.setTop (mkF m 16 #[.val (.ref a1), .val (.int p2), .val (.int p3), .val (.int p4), .val (.int p5), .val (.int p6)] [(.int p4), (.ref a1)])) _
    refine st10 _ ?_
    show Steps p.tables e below (T10.setTop (mkF m 19 #[.val (.ref a1), .val (.int p2), .val (.int p3), .val (.int p4), .val (.int p5), .val (.int p6)] [])) _
    refine XS.aloadN X10.here hx rfl (hb hby d13_19) rfl rfl ?_
    show Steps p.tables e below (T10.setTop (mkF m 20 #[.val (.ref a1), .val (.int p2), .val (.int p3), .val (.int p4), .val (.int p5), .val (.int p6)] [(.ref a1)])) _
    refine XS.iload X10.here hx rfl (hb hby d13_20) rfl ?_
    show Steps p.tables e below (T10.setTop (mkF m 22 #[.val (.ref a1), .val (.int p2), .val (.int p3), .val (.int p4), .val (.int p5), .val (.int p6)] [(.int p5), (.ref a1)])) _
    refine st11 _ ?_
    show Steps p.tables e below (T11.setTop (mkF m 25 #[.val (.ref a1), .val (.int p2), .val (.int p3), .val (.int p4), .val (.int p5), .val (.int p6)] [])) _
    refine XS.aloadN X11.here hx rfl (hb hby d13_25) rfl rfl ?_
    show Steps p.tables e below (T11.setTop (mkF m 26 #[.val (.ref a1), .val (.int p2), .val (.int p3), .val (.int p4), .val (.int p5), .val (.int p6)] [(.ref a1)])) _
    refine XS.iload X11.here hx rfl (hb hby d13_26) rfl ?_
    show Steps p.tables e below (T11.setTop (mkF m 28 #[.val (.ref a1), .val (.int p2), .val (.int p3), .val (.int p4), .val (.int p5), .val (.int p6)] [(.int p6), (.ref a1)])) _
    refine st12 _ ?_
    show Steps p.tables e below (T12.setTop (mkF m 31 #[.val (.ref a1), .val (.int p2), .val (.int p3), .val (.int p4), .val (.int p5), .val (.int p6)] [])) _
    exact X12.returnOut hx Bd.returns (hb hby d13_31) hr
  · show QE Z a1 p2 p3 p4 p5 p6 h0 n0 _ T12.heap _
    rw [e12]
    exact ⟨rfl, N12, K12, (((((E_a1.wr W8).wr W9).wr W10).wr W11).wr W12), ((((Fw8.other W9 (Or.inr (slot_ne (Or.inr (hw _ (List.mem_of_getElem? (i := 81) rfl))) (Or.inr (hw _ (List.mem_of_getElem? (i := 83) rfl))) (by decide) (t := .int) (t' := .int) (by decide) (by decide)))).other W10 (Or.inr (slot_ne (Or.inr (hw _ (List.mem_of_getElem? (i := 81) rfl))) (Or.inr (hw _ (List.mem_of_getElem? (i := 85) rfl))) (by decide) (t := .int) (t' := .int) (by decide) (by decide)))).other W11 (Or.inr (slot_ne (Or.inr (hw _ (List.mem_of_getElem? (i := 81) rfl))) (Or.inr (hw _ (List.mem_of_getElem? (i := 87) rfl))) (by decide) (t := .int) (t' := .int) (by decide) (by decide)))).other W12 (Or.inr (slot_ne (Or.inr (hw _ (List.mem_of_getElem? (i := 81) rfl))) (Or.inr (hw _ (List.mem_of_getElem? (i := 89) rfl))) (by decide) (t := .int) (t' := .int) (by decide) (by decide)))), (((Fw9.other W10 (Or.inr (slot_ne (Or.inr (hw _ (List.mem_of_getElem? (i := 83) rfl))) (Or.inr (hw _ (List.mem_of_getElem? (i := 85) rfl))) (by decide) (t := .int) (t' := .int) (by decide) (by decide)))).other W11 (Or.inr (slot_ne (Or.inr (hw _ (List.mem_of_getElem? (i := 83) rfl))) (Or.inr (hw _ (List.mem_of_getElem? (i := 87) rfl))) (by decide) (t := .int) (t' := .int) (by decide) (by decide)))).other W12 (Or.inr (slot_ne (Or.inr (hw _ (List.mem_of_getElem? (i := 83) rfl))) (Or.inr (hw _ (List.mem_of_getElem? (i := 89) rfl))) (by decide) (t := .int) (t' := .int) (by decide) (by decide)))), ((Fw10.other W11 (Or.inr (slot_ne (Or.inr (hw _ (List.mem_of_getElem? (i := 85) rfl))) (Or.inr (hw _ (List.mem_of_getElem? (i := 87) rfl))) (by decide) (t := .int) (t' := .int) (by decide) (by decide)))).other W12 (Or.inr (slot_ne (Or.inr (hw _ (List.mem_of_getElem? (i := 85) rfl))) (Or.inr (hw _ (List.mem_of_getElem? (i := 89) rfl))) (by decide) (t := .int) (t' := .int) (by decide) (by decide)))), (Fw11.other W12 (Or.inr (slot_ne (Or.inr (hw _ (List.mem_of_getElem? (i := 87) rfl))) (Or.inr (hw _ (List.mem_of_getElem? (i := 89) rfl))) (by decide) (t := .int) (t' := .int) (by decide) (by decide)))), Fw12⟩
theorem d10_0 : decode prog_9_method_5_code 0 = .ok (.aload_n 0, 1) := by decide +kernel
theorem d10_1 : decode prog_9_method_5_code 1 = .ok (.getfield 7, 3) := by decide +kernel
theorem d10_4 : decode prog_9_method_5_code 4 = .ok (.ireturn, 1) := by decide +kernel
theorem pn_10 : plainName "com/example/rosehip/rosehip/codec/BerReader$Header" = true := by first | (simp [plainName, overriddenIn]; done) | decide +kernel
theorem ef_10 (m : MethodId) (x0 : Addr) : entryFrame m #[(.ref x0)] 1 = mkF m 0 #[.val (.ref x0)] [] := by first | (simp [entryFrame, mkF, argsToLocals, Value.category]; done) | rfl
set_option maxRecDepth 65536 in
set_option maxHeartbeats 40000000 in
theorem rm10 (l : Launch) (Z : State) (a0 : Array Value) (hw : ∀ d ∈ tables_1, d.before a0 Z = true) (ws : List Jvm.Cond) (a1 : Addr) (w2 : Int32) (h0 : Heap) (n0 : Nat) (Z0 : n0 ≤ h0.size) (F_identifier_a1 : Fld Z h0 a1 "com/example/rosehip/rosehip/codec/BerReader$Header" "identifier" "I" (.int w2)) :
    MetFree l (⟨"com/example/rosehip/rosehip/codec/BerReader$Header", "identifier", "()I"⟩ : MethodName) (head1 (Jvm.Cond.code (⟨"com/example/rosehip/rosehip/codec/BerReader$Header", "identifier", "()I"⟩ : MethodName) prog_9_method_5_code 1 (some .int) :: ws) ({ frames := 0, cells := 0, slots := 0, locals := 0 } : Room)) (fun a U => a = #[(.ref a1)] ∧ Z.Warmed39 U.vm ∧ U.heap = h0) (fun _ _ _ _ _ => True) (fun _ U o U' => ∃ v L, o = .returned v ∧ QV (.int w2) h0 n0 v U'.heap L ∧ FrameEnd U o U' L ({ frames := 0, cells := 0, slots := 0, locals := 0 } : Room).cells ({ frames := 0, cells := 0, slots := 0, locals := 0 } : Room).slots) := by
  refine MetFree.of_bodySF (plainFor_of_name pn_10) hisR ?_
  intro p e s m args below meth c s₁ Bd hml0 hP hK
  obtain ⟨rfl, hZ, hh⟩ := hP
  have hx := Bd.exec
  have hby := Bd.bytes
  have hml : c.maxLocals = 1 := hml0
  have hown : s.vm.findClass "com/example/rosehip/rosehip/codec/BerReader$Header" = some m.cls := findClass_of_methodNamed Bd.named
  have hnm := (name_of_methodNamed Bd.named Bd.method).1
  have X0 : Stand p l e ({ frames := 0, cells := 0, slots := 0, locals := 0 } : Room) s m #[(.ref a1)] below meth c s₁ [] 0 0 := Stand.of_body Bd
  have e0 : s₁.heap = h0 := by rw [← hh, Bd.state]; rfl
  have N0 := Fr.nil n0
  have pre0 : ∀ t, Steps p.tables e below (s₁.setTop (mkF m 0 #[.val (.ref a1)] [])) t → Steps p.tables e below (s₁.setTop (entryFrame m #[(.ref a1)] 1)) t := fun t k => castTop (ef_10 m a1) k
  -- 3. LAWS
  obtain ⟨T3, X3, e3, st3⟩ := getF X0 hx hZ hown (host := "") (Or.inl (hw _ (List.mem_of_getElem? (i := 51) rfl))) Via.refl e0 F_identifier_a1 (g := (mkF m 1 #[.val (.ref a1)] [(.ref a1)])) rfl rfl (hb hby d10_1)
  obtain ⟨fs, hr, hrun, hended, hW, hsame⟩ := X3.leave (v := some (.int w2)) (fun h => by rw [Bd.returns] at h; cases h)
  refine ⟨_, _, pre0 _ ?_, hrun, hended, _, _, rfl, ?_, ⟨_, rfl⟩, hW, hsame.mono (by decide) (by decide)⟩
  -- 4. STEPS
  · show Steps p.tables e below (s₁.setTop (mkF m 0 #[.val (.ref a1)] [])) _
    refine XS.aloadN X0.here hx rfl (hb hby d10_0) rfl rfl ?_
    show Steps p.tables e below (s₁.setTop (mkF m 1 #[.val (.ref a1)] [(.ref a1)])) _
    refine st3 _ ?_
    show Steps p.tables e below (T3.setTop (mkF m 4 #[.val (.ref a1)] [(.int w2)])) _
    exact retI X3 hx Bd.returns (hb hby d10_4) hr      -- retI stands in the head ('lawwalk <made dir>' prints it)
  · show QV (.int w2) h0 n0 _ T3.heap _
    rw [e3]
    exact ⟨rfl, N0, rfl⟩
theorem d11_0 : decode prog_9_method_6_code 0 = .ok (.aload_n 0, 1) := by decide +kernel
theorem d11_1 : decode prog_9_method_6_code 1 = .ok (.getfield 13, 3) := by decide +kernel
theorem d11_4 : decode prog_9_method_6_code 4 = .ok (.lreturn, 1) := by decide +kernel
theorem pn_11 : plainName "com/example/rosehip/rosehip/codec/BerReader$Header" = true := by first | (simp [plainName, overriddenIn]; done) | decide +kernel
theorem ef_11 (m : MethodId) (x0 : Addr) : entryFrame m #[(.ref x0)] 1 = mkF m 0 #[.val (.ref x0)] [] := by first | (simp [entryFrame, mkF, argsToLocals, Value.category]; done) | rfl
set_option maxRecDepth 65536 in
set_option maxHeartbeats 40000000 in
theorem rm11 (l : Launch) (Z : State) (a0 : Array Value) (hw : ∀ d ∈ tables_1, d.before a0 Z = true) (ws : List Jvm.Cond) (a1 : Addr) (w2 : Int64) (h0 : Heap) (n0 : Nat) (Z0 : n0 ≤ h0.size) (F_length_a1 : Fld Z h0 a1 "com/example/rosehip/rosehip/codec/BerReader$Header" "length" "J" (.long w2)) :
    MetFree l (⟨"com/example/rosehip/rosehip/codec/BerReader$Header", "length", "()J"⟩ : MethodName) (head1 (Jvm.Cond.code (⟨"com/example/rosehip/rosehip/codec/BerReader$Header", "length", "()J"⟩ : MethodName) prog_9_method_6_code 1 (some .long) :: ws) ({ frames := 0, cells := 0, slots := 0, locals := 0 } : Room)) (fun a U => a = #[(.ref a1)] ∧ Z.Warmed39 U.vm ∧ U.heap = h0) (fun _ _ _ _ _ => True) (fun _ U o U' => ∃ v L, o = .returned v ∧ QV (.long w2) h0 n0 v U'.heap L ∧ FrameEnd U o U' L ({ frames := 0, cells := 0, slots := 0, locals := 0 } : Room).cells ({ frames := 0, cells := 0, slots := 0, locals := 0 } : Room).slots) := by
  refine MetFree.of_bodySF (plainFor_of_name pn_11) hisR ?_
  intro p e s m args below meth c s₁ Bd hml0 hP hK
  obtain ⟨rfl, hZ, hh⟩ := hP
  have hx := Bd.exec
  have hby := Bd.bytes
  have hml : c.maxLocals = 1 := hml0
  have hown : s.vm.findClass "com/example/rosehip/rosehip/codec/BerReader$Header" = some m.cls := findClass_of_methodNamed Bd.named
  have hnm := (name_of_methodNamed Bd.named Bd.method).1
  have X0 : Stand p l e ({ frames := 0, cells := 0, slots := 0, locals := 0 } : Room) s m #[(.ref a1)] below meth c s₁ [] 0 0 := Stand.of_body Bd
  have e0 : s₁.heap = h0 := by rw [← hh, Bd.state]; rfl
  have N0 := Fr.nil n0
  have pre0 : ∀ t, Steps p.tables e below (s₁.setTop (mkF m 0 #[.val (.ref a1)] [])) t → Steps p.tables e below (s₁.setTop (entryFrame m #[(.ref a1)] 1)) t := fun t k => castTop (ef_11 m a1) k
  -- 3. LAWS
  obtain ⟨T3, X3, e3, st3⟩ := getF X0 hx hZ hown (host := "") (Or.inl (hw _ (List.mem_of_getElem? (i := 53) rfl))) Via.refl e0 F_length_a1 (g := (mkF m 1 #[.val (.ref a1)] [(.ref a1)])) rfl rfl (hb hby d11_1)
  obtain ⟨fs, hr, hrun, hended, hW, hsame⟩ := X3.leave (v := some (.long w2)) (fun h => by rw [Bd.returns] at h; cases h)
  refine ⟨_, _, pre0 _ ?_, hrun, hended, _, _, rfl, ?_, ⟨_, rfl⟩, hW, hsame.mono (by decide) (by decide)⟩
  -- 4. STEPS
  · show Steps p.tables e below (s₁.setTop (mkF m 0 #[.val (.ref a1)] [])) _
    refine XS.aloadN X0.here hx rfl (hb hby d11_0) rfl rfl ?_
    show Steps p.tables e below (s₁.setTop (mkF m 1 #[.val (.ref a1)] [(.ref a1)])) _
    refine st3 _ ?_
    show Steps p.tables e below (T3.setTop (mkF m 4 #[.val (.ref a1)] [(.long w2)])) _
    exact retJ X3 hx Bd.returns (hb hby d11_4) hr
  · show QV (.long w2) h0 n0 _ T3.heap _
    rw [e3]
    exact ⟨rfl, N0, rfl⟩
theorem d12_0 : decode prog_9_method_7_code 0 = .ok (.aload_n 0, 1) := by decide +kernel
theorem d12_1 : decode prog_9_method_7_code 1 = .ok (.getfield 17, 3) := by decide +kernel
theorem d12_4 : decode prog_9_method_7_code 4 = .ok (.ireturn, 1) := by decide +kernel
theorem pn_12 : plainName "com/example/rosehip/rosehip/codec/BerReader$Header" = true := by first | (simp [plainName, overriddenIn]; done) | decide +kernel
theorem ef_12 (m : MethodId) (x0 : Addr) : entryFrame m #[(.ref x0)] 1 = mkF m 0 #[.val (.ref x0)] [] := by first | (simp [entryFrame, mkF, argsToLocals, Value.category]; done) | rfl
set_option maxRecDepth 65536 in
set_option maxHeartbeats 40000000 in
theorem rm12 (l : Launch) (Z : State) (a0 : Array Value) (hw : ∀ d ∈ tables_1, d.before a0 Z = true) (ws : List Jvm.Cond) (a1 : Addr) (w2 : Int32) (h0 : Heap) (n0 : Nat) (Z0 : n0 ≤ h0.size) (F_contentStart_a1 : Fld Z h0 a1 "com/example/rosehip/rosehip/codec/BerReader$Header" "contentStart" "I" (.int w2)) :
    MetFree l (⟨"com/example/rosehip/rosehip/codec/BerReader$Header", "contentStart", "()I"⟩ : MethodName) (head1 (Jvm.Cond.code (⟨"com/example/rosehip/rosehip/codec/BerReader$Header", "contentStart", "()I"⟩ : MethodName) prog_9_method_7_code 1 (some .int) :: ws) ({ frames := 0, cells := 0, slots := 0, locals := 0 } : Room)) (fun a U => a = #[(.ref a1)] ∧ Z.Warmed39 U.vm ∧ U.heap = h0) (fun _ _ _ _ _ => True) (fun _ U o U' => ∃ v L, o = .returned v ∧ QV (.int w2) h0 n0 v U'.heap L ∧ FrameEnd U o U' L ({ frames := 0, cells := 0, slots := 0, locals := 0 } : Room).cells ({ frames := 0, cells := 0, slots := 0, locals := 0 } : Room).slots) := by
  refine MetFree.of_bodySF (plainFor_of_name pn_12) hisR ?_
  intro p e s m args below meth c s₁ Bd hml0 hP hK
  obtain ⟨rfl, hZ, hh⟩ := hP
  have hx := Bd.exec
  have hby := Bd.bytes
  have hml : c.maxLocals = 1 := hml0
  have hown : s.vm.findClass "com/example/rosehip/rosehip/codec/BerReader$Header" = some m.cls := findClass_of_methodNamed Bd.named
  have hnm := (name_of_methodNamed Bd.named Bd.method).1
  have X0 : Stand p l e ({ frames := 0, cells := 0, slots := 0, locals := 0 } : Room) s m #[(.ref a1)] below meth c s₁ [] 0 0 := Stand.of_body Bd
  have e0 : s₁.heap = h0 := by rw [← hh, Bd.state]; rfl
  have N0 := Fr.nil n0
  have pre0 : ∀ t, Steps p.tables e below (s₁.setTop (mkF m 0 #[.val (.ref a1)] [])) t → Steps p.tables e below (s₁.setTop (entryFrame m #[(.ref a1)] 1)) t := fun t k => castTop (ef_12 m a1) k
  -- 3. LAWS
  obtain ⟨T3, X3, e3, st3⟩ := getF X0 hx hZ hown (host := "") (Or.inl (hw _ (List.mem_of_getElem? (i := 55) rfl))) Via.refl e0 F_contentStart_a1 (g := (mkF m 1 #[.val (.ref a1)] [(.ref a1)])) rfl rfl (hb hby d12_1)
  obtain ⟨fs, hr, hrun, hended, hW, hsame⟩ := X3.leave (v := some (.int w2)) (fun h => by rw [Bd.returns] at h; cases h)
  refine ⟨_, _, pre0 _ ?_, hrun, hended, _, _, rfl, ?_, ⟨_, rfl⟩, hW, hsame.mono (by decide) (by decide)⟩
  -- 4. STEPS
  · show Steps p.tables e below (s₁.setTop (mkF m 0 #[.val (.ref a1)] [])) _
    refine XS.aloadN X0.here hx rfl (hb hby d12_0) rfl rfl ?_
    show Steps p.tables e below (s₁.setTop (mkF m 1 #[.val (.ref a1)] [(.ref a1)])) _
    refine st3 _ ?_
    show Steps p.tables e below (T3.setTop (mkF m 4 #[.val (.ref a1)] [(.int w2)])) _
    exact retI X3 hx Bd.returns (hb hby d12_4) hr      -- retI stands in the head ('lawwalk <made dir>' prints it)
  · show QV (.int w2) h0 n0 _ T3.heap _
    rw [e3]
    exact ⟨rfl, N0, rfl⟩
theorem d14_0 : decode prog_8_method_9_code 0 = .ok (.aload_n 0, 1) := by decide +kernel
theorem d14_1 : decode prog_8_method_9_code 1 = .ok (.getfield 22, 3) := by decide +kernel
theorem d14_4 : decode prog_8_method_9_code 4 = .ok (.ireturn, 1) := by decide +kernel
theorem pn_14 : plainName "com/example/rosehip/rosehip/codec/BerReader$Element" = true := by first | (simp [plainName, overriddenIn]; done) | decide +kernel
theorem ef_14 (m : MethodId) (x0 : Addr) : entryFrame m #[(.ref x0)] 1 = mkF m 0 #[.val (.ref x0)] [] := by first | (simp [entryFrame, mkF, argsToLocals, Value.category]; done) | rfl
set_option maxRecDepth 65536 in
set_option maxHeartbeats 40000000 in
theorem rm14 (l : Launch) (Z : State) (a0 : Array Value) (hw : ∀ d ∈ tables_1, d.before a0 Z = true) (ws : List Jvm.Cond) (a1 : Addr) (w2 : Int32) (h0 : Heap) (n0 : Nat) (Z0 : n0 ≤ h0.size) (F_end_a1 : Fld Z h0 a1 "com/example/rosehip/rosehip/codec/BerReader$Element" "end" "I" (.int w2)) :
    MetFree l (⟨"com/example/rosehip/rosehip/codec/BerReader$Element", "end", "()I"⟩ : MethodName) (head1 (Jvm.Cond.code (⟨"com/example/rosehip/rosehip/codec/BerReader$Element", "end", "()I"⟩ : MethodName) prog_8_method_9_code 1 (some .int) :: ws) ({ frames := 0, cells := 0, slots := 0, locals := 0 } : Room)) (fun a U => a = #[(.ref a1)] ∧ Z.Warmed39 U.vm ∧ U.heap = h0) (fun _ _ _ _ _ => True) (fun _ U o U' => ∃ v L, o = .returned v ∧ QV (.int w2) h0 n0 v U'.heap L ∧ FrameEnd U o U' L ({ frames := 0, cells := 0, slots := 0, locals := 0 } : Room).cells ({ frames := 0, cells := 0, slots := 0, locals := 0 } : Room).slots) := by
  refine MetFree.of_bodySF (plainFor_of_name pn_14) hisR ?_
  intro p e s m args below meth c s₁ Bd hml0 hP hK
  obtain ⟨rfl, hZ, hh⟩ := hP
  have hx := Bd.exec
  have hby := Bd.bytes
  have hml : c.maxLocals = 1 := hml0
  have hown : s.vm.findClass "com/example/rosehip/rosehip/codec/BerReader$Element" = some m.cls := findClass_of_methodNamed Bd.named
  have hnm := (name_of_methodNamed Bd.named Bd.method).1
  have X0 : Stand p l e ({ frames := 0, cells := 0, slots := 0, locals := 0 } : Room) s m #[(.ref a1)] below meth c s₁ [] 0 0 := Stand.of_body Bd
  have e0 : s₁.heap = h0 := by rw [← hh, Bd.state]; rfl
  have N0 := Fr.nil n0
  have pre0 : ∀ t, Steps p.tables e below (s₁.setTop (mkF m 0 #[.val (.ref a1)] [])) t → Steps p.tables e below (s₁.setTop (entryFrame m #[(.ref a1)] 1)) t := fun t k => castTop (ef_14 m a1) k
  -- 3. LAWS
  obtain ⟨T3, X3, e3, st3⟩ := getF X0 hx hZ hown (host := "") (Or.inl (hw _ (List.mem_of_getElem? (i := 88) rfl))) Via.refl e0 F_end_a1 (g := (mkF m 1 #[.val (.ref a1)] [(.ref a1)])) rfl rfl (hb hby d14_1)
  obtain ⟨fs, hr, hrun, hended, hW, hsame⟩ := X3.leave (v := some (.int w2)) (fun h => by rw [Bd.returns] at h; cases h)
  refine ⟨_, _, pre0 _ ?_, hrun, hended, _, _, rfl, ?_, ⟨_, rfl⟩, hW, hsame.mono (by decide) (by decide)⟩
  -- 4. STEPS
  · show Steps p.tables e below (s₁.setTop (mkF m 0 #[.val (.ref a1)] [])) _
    refine XS.aloadN X0.here hx rfl (hb hby d14_0) rfl rfl ?_
    show Steps p.tables e below (s₁.setTop (mkF m 1 #[.val (.ref a1)] [(.ref a1)])) _
    refine st3 _ ?_
    show Steps p.tables e below (T3.setTop (mkF m 4 #[.val (.ref a1)] [(.int w2)])) _
    exact retI X3 hx Bd.returns (hb hby d14_4) hr      -- retI stands in the head ('lawwalk <made dir>' prints it)
  · show QV (.int w2) h0 n0 _ T3.heap _
    rw [e3]
    exact ⟨rfl, N0, rfl⟩
theorem d7_0 : decode prog_7_method_18_code 0 = .ok (.iload_n 1, 1) := by decide +kernel
theorem d7_1 : decode prog_7_method_18_code 1 = .ok (.istore_n 2, 1) := by decide +kernel
theorem d7_2 : decode prog_7_method_18_code 2 = .ok (.iload_n 2, 1) := by decide +kernel
theorem d7_3 : decode prog_7_method_18_code 3 = .ok (.aload_n 0, 1) := by decide +kernel
theorem d7_4 : decode prog_7_method_18_code 4 = .ok (.getfield 22, 3) := by decide +kernel
theorem d7_7 : decode prog_7_method_18_code 7 = .ok (.if_icmp .lt 5, 3) := by decide +kernel
theorem d7_12 : decode prog_7_method_18_code 12 = .ok (.aload_n 0, 1) := by decide +kernel
theorem d7_13 : decode prog_7_method_18_code 13 = .ok (.getfield 14, 3) := by decide +kernel
theorem d7_16 : decode prog_7_method_18_code 16 = .ok (.iload_n 2, 1) := by decide +kernel
theorem d7_17 : decode prog_7_method_18_code 17 = .ok (.iinc 2 1, 3) := by decide +kernel
theorem d7_20 : decode prog_7_method_18_code 20 = .ok (.baload, 1) := by decide +kernel
theorem d7_21 : decode prog_7_method_18_code 21 = .ok (.sipush 255, 3) := by decide +kernel
theorem d7_24 : decode prog_7_method_18_code 24 = .ok (.iand, 1) := by decide +kernel
theorem d7_25 : decode prog_7_method_18_code 25 = .ok (.istore_n 3, 1) := by decide +kernel
theorem d7_26 : decode prog_7_method_18_code 26 = .ok (.iload_n 3, 1) := by decide +kernel
theorem d7_27 : decode prog_7_method_18_code 27 = .ok (.bipush 31, 2) := by decide +kernel
theorem d7_29 : decode prog_7_method_18_code 29 = .ok (.iand, 1) := by decide +kernel
theorem d7_30 : decode prog_7_method_18_code 30 = .ok (.bipush 31, 2) := by decide +kernel
theorem d7_32 : decode prog_7_method_18_code 32 = .ok (.if_icmp .ne 37, 3) := by decide +kernel
theorem d7_69 : decode prog_7_method_18_code 69 = .ok (.iload_n 2, 1) := by decide +kernel
theorem d7_70 : decode prog_7_method_18_code 70 = .ok (.aload_n 0, 1) := by decide +kernel
theorem d7_71 : decode prog_7_method_18_code 71 = .ok (.getfield 22, 3) := by decide +kernel
theorem d7_74 : decode prog_7_method_18_code 74 = .ok (.if_icmp .lt 5, 3) := by decide +kernel
theorem d7_79 : decode prog_7_method_18_code 79 = .ok (.aload_n 0, 1) := by decide +kernel
theorem d7_80 : decode prog_7_method_18_code 80 = .ok (.getfield 14, 3) := by decide +kernel
theorem d7_83 : decode prog_7_method_18_code 83 = .ok (.iload_n 2, 1) := by decide +kernel
theorem d7_84 : decode prog_7_method_18_code 84 = .ok (.iinc 2 1, 3) := by decide +kernel
theorem d7_87 : decode prog_7_method_18_code 87 = .ok (.baload, 1) := by decide +kernel
theorem d7_88 : decode prog_7_method_18_code 88 = .ok (.sipush 255, 3) := by decide +kernel
theorem d7_91 : decode prog_7_method_18_code 91 = .ok (.iand, 1) := by decide +kernel
theorem d7_92 : decode prog_7_method_18_code 92 = .ok (.istore 4, 2) := by decide +kernel
theorem d7_94 : decode prog_7_method_18_code 94 = .ok (.iload 4, 2) := by decide +kernel
theorem d7_96 : decode prog_7_method_18_code 96 = .ok (.sipush 128, 3) := by decide +kernel
theorem d7_99 : decode prog_7_method_18_code 99 = .ok (.if_icmp .ge 11, 3) := by decide +kernel
theorem d7_102 : decode prog_7_method_18_code 102 = .ok (.iload 4, 2) := by decide +kernel
theorem d7_104 : decode prog_7_method_18_code 104 = .ok (.i2l, 1) := by decide +kernel
theorem d7_105 : decode prog_7_method_18_code 105 = .ok (.lstore 5, 2) := by decide +kernel
theorem d7_107 : decode prog_7_method_18_code 107 = .ok (.goto 155, 3) := by decide +kernel
theorem d7_262 : decode prog_7_method_18_code 262 = .ok (.new 32, 3) := by decide +kernel
theorem d7_265 : decode prog_7_method_18_code 265 = .ok (.dup, 1) := by decide +kernel
theorem d7_266 : decode prog_7_method_18_code 266 = .ok (.iload_n 3, 1) := by decide +kernel
theorem d7_267 : decode prog_7_method_18_code 267 = .ok (.lload 5, 2) := by decide +kernel
theorem d7_269 : decode prog_7_method_18_code 269 = .ok (.iload_n 2, 1) := by decide +kernel
theorem d7_270 : decode prog_7_method_18_code 270 = .ok (.invokespecial 225, 3) := by decide +kernel
theorem d7_273 : decode prog_7_method_18_code 273 = .ok (.areturn, 1) := by decide +kernel
theorem pn_7 : plainName "com/example/rosehip/rosehip/codec/BerReader" = true := by first | (simp [plainName, overriddenIn]; done) | decide +kernel
theorem pd_7_7 : parseMethodDescriptor "(IJI)V" = some ⟨[.int, .long, .int], none⟩ := by decide +kernel
theorem ef_7 (m : MethodId) (x0 : Addr) (x1 : Int32) : entryFrame m #[(.ref x0), (.int x1)] 9 = mkF m 0 #[.val (.ref x0), .val (.int x1), .unset, .unset, .unset, .unset, .unset, .unset, .unset] [] := by first | (simp [entryFrame, mkF, argsToLocals, Value.category]; done) | rfl
set_option maxRecDepth 65536 in
set_option maxHeartbeats 40000000 in
theorem rm7_ (l : Launch) (Z : State) (a0 : Array Value) (hw : ∀ d ∈ tables_1, d.before a0 Z = true) (ws : List Jvm.Cond) (a1 : Addr) (p2 : Int32) (w3 : Int32) (w5 : Addr) (w7 : Int32) (cl_w5 : Cell) (w10 : Int32) (h0 : Heap) (n0 : Nat) (Z0 : n0 ≤ h0.size) (F_limit_a1 : Fld Z h0 a1 "com/example/rosehip/rosehip/codec/BerReader" "limit" "I" (.int w3)) (F_bytes_a1 : Fld Z h0 a1 "com/example/rosehip/rosehip/codec/BerReader" "bytes" "[B" (.ref w5)) (Ar_w5 : Arr Z h0 w5 cl_w5 .byte) (hin20 : ¬ (p2 < 0 ∨ cl_w5.slots.size ≤ (p2).toNatClampNeg)) (hat20 : cl_w5.slots[(p2).toNatClampNeg]? = some (.int w7)) (hin87 : ¬ ((p2 + (1 : Int32)) < 0 ∨ cl_w5.slots.size ≤ ((p2 + (1 : Int32))).toNatClampNeg)) (hat87 : cl_w5.slots[((p2 + (1 : Int32))).toNatClampNeg]? = some (.int w10)) (hc7 : p2 < w3) (hc32 : ¬ (((w7 &&& (255 : Int32)) &&& (31 : Int32)) = (31 : Int32))) (hc74 : (p2 + (1 : Int32)) < w3) (hc99 : (w10 &&& (255 : Int32)) < (128 : Int32)) :
    MetFree l (⟨"com/example/rosehip/rosehip/codec/BerReader", "header", "(I)Lcom/example/rosehip/rosehip/codec/BerReader$Header;"⟩ : MethodName) (head1 (Jvm.Cond.code (⟨"com/example/rosehip/rosehip/codec/BerReader", "header", "(I)Lcom/example/rosehip/rosehip/codec/BerReader$Header;"⟩ : MethodName) prog_7_method_18_code 9 (some (.object "com/example/rosehip/rosehip/codec/BerReader$Header")) :: ws) ({ frames := 3, cells := 1, slots := 3, locals := 41 } : Room)) (fun a U => a = #[(.ref a1), (.int p2)] ∧ Z.Warmed39 U.vm ∧ U.heap = h0) (fun _ _ _ _ _ => True) (fun _ U o U' => ∃ v L, o = .returned v ∧ QHd Z (w7 &&& (255 : Int32)) ((w10 &&& (255 : Int32)).toInt64) ((p2 + (1 : Int32)) + (1 : Int32)) h0 n0 v U'.heap L ∧ FrameEnd U o U' L ({ frames := 3, cells := 1, slots := 3, locals := 41 } : Room).cells ({ frames := 3, cells := 1, slots := 3, locals := 41 } : Room).slots) := by
  refine MetFree.of_bodySF (plainFor_of_name pn_7) hisR ?_
  intro p e s m args below meth c s₁ Bd hml0 hP hK
  obtain ⟨rfl, hZ, hh⟩ := hP
  have hx := Bd.exec
  have hby := Bd.bytes
  have hml : c.maxLocals = 9 := hml0
  have hown : s.vm.findClass "com/example/rosehip/rosehip/codec/BerReader" = some m.cls := findClass_of_methodNamed Bd.named
  have hnm := (name_of_methodNamed Bd.named Bd.method).1
  have X0 : Stand p l e ({ frames := 3, cells := 1, slots := 3, locals := 41 } : Room) s m #[(.ref a1), (.int p2)] below meth c s₁ [] 0 0 := Stand.of_body Bd
  have e0 : s₁.heap = h0 := by rw [← hh, Bd.state]; rfl
  have N0 := Fr.nil n0
  have pre0 : ∀ t, Steps p.tables e below (s₁.setTop (mkF m 0 #[.val (.ref a1), .val (.int p2), .unset, .unset, .unset, .unset, .unset, .unset, .unset] [])) t → Steps p.tables e below (s₁.setTop (entryFrame m #[(.ref a1), (.int p2)] 9)) t := fun t k => castTop (ef_7 m a1 p2) k
  -- 3. LAWS
  obtain ⟨T4, X4, e4, st4⟩ := getF X0 hx hZ hown (host := "") (Or.inl (hw _ (List.mem_of_getElem? (i := 21) rfl))) Via.refl e0 F_limit_a1 (g := (mkF m 4 #[.val (.ref a1), .val (.int p2), .val (.int p2), .unset, .unset, .unset, .unset, .unset, .unset] [(.ref a1), (.int p2)])) rfl rfl (hb hby d7_4)
  obtain ⟨T6, X6, e6, st6⟩ := getF X4 hx hZ hown (host := "") (Or.inl (hw _ (List.mem_of_getElem? (i := 17) rfl))) Via.refl e4 F_bytes_a1 (g := (mkF m 13 #[.val (.ref a1), .val (.int p2), .val (.int p2), .unset, .unset, .unset, .unset, .unset, .unset] [(.ref a1)])) rfl rfl (hb hby d7_13)
  obtain ⟨T8, X8, e8, st8⟩ := getF X6 hx hZ hown (host := "") (Or.inl (hw _ (List.mem_of_getElem? (i := 21) rfl))) Via.refl e6 F_limit_a1 (g := (mkF m 71 #[.val (.ref a1), .val (.int p2), .val (.int (p2 + (1 : Int32))), .val (.int (w7 &&& (255 : Int32))), .unset, .unset, .unset, .unset, .unset] [(.ref a1), (.int (p2 + (1 : Int32)))])) rfl rfl (hb hby d7_71)
  obtain ⟨T9, X9, e9, st9⟩ := getF X8 hx hZ hown (host := "") (Or.inl (hw _ (List.mem_of_getElem? (i := 17) rfl))) Via.refl e8 F_bytes_a1 (g := (mkF m 80 #[.val (.ref a1), .val (.int p2), .val (.int (p2 + (1 : Int32))), .val (.int (w7 &&& (255 : Int32))), .unset, .unset, .unset, .unset, .unset] [(.ref a1)])) rfl rfl (hb hby d7_80)
  obtain ⟨T11, h11, X11, e11, E11, A11, D11, -, st11⟩ := newO X9 hx hZ hown (hw _ (List.mem_of_getElem? (i := 39) rfl)) (hw _ (List.mem_of_getElem? (i := 40) rfl)) (hw _ (List.mem_of_getElem? (i := 41) rfl)) e9 (g := (mkF m 262 #[.val (.ref a1), .val (.int p2), .val (.int ((p2 + (1 : Int32)) + (1 : Int32))), .val (.int (w7 &&& (255 : Int32))), .val (.int (w10 &&& (255 : Int32))), .val (.long ((w10 &&& (255 : Int32)).toInt64)), .second, .unset, .unset] [])) rfl (hb hby d7_262) (by decide) (by decide)
  obtain ⟨b11, g11⟩ : ∃ z, z = h0.size := ⟨_, rfl⟩      -- the fresh object's address
  rw [← g11] at A11 D11 st11      -- A11 : Exa Z h11 b11 "com/example/rosehip/rosehip/codec/BerReader$Header"; E11 : Ext h0 h11 (carries every older fact: .ext E11)
  have F_identifier_b11 : Fld Z h11 b11 "com/example/rosehip/rosehip/codec/BerReader$Header" "identifier" "I" (.int (0 : Int32)) := D11 (Or.inr (hw _ (List.mem_of_getElem? (i := 52) rfl))) (ty := .int) (by decide)
  have F_length_b11 : Fld Z h11 b11 "com/example/rosehip/rosehip/codec/BerReader$Header" "length" "J" (.long (0 : Int64)) := D11 (Or.inr (hw _ (List.mem_of_getElem? (i := 54) rfl))) (ty := .long) (by decide)
  have F_contentStart_b11 : Fld Z h11 b11 "com/example/rosehip/rosehip/codec/BerReader$Header" "contentStart" "I" (.int (0 : Int32)) := D11 (Or.inr (hw _ (List.mem_of_getElem? (i := 56) rfl))) (ty := .int) (by decide)
  have E_b11 := A11
  have g_b11 : n0 ≤ b11 := Nat.le_trans Z0 (Nat.le_of_eq g11.symm)
  have sz_b11 : h0.size ≤ b11 := (Nat.le_trans (Keep.refl h0 []).1 (Nat.le_of_eq g11.symm))
  have K11 : Keep h0 h11 [] := (Keep.refl h0 []).ext E11
  -- pc 270: the constructor of com/example/rosehip/rosehip/codec/BerReader$Header by its contract rm8
  obtain ⟨_, _, ⟨T12, L12, k12, n12⟩, -, X12, ⟨Lc12, hQ12, l12, y12, z12⟩, st12⟩ := own_specialRef X11 hx hZ (y := (⟨"com/example/rosehip/rosehip/codec/BerReader$Header", "<init>", "(IJI)V"⟩ : MethodName)) rfl hown (id (hw _ (List.mem_of_getElem? (i := 42) rfl))) (id (hw _ (List.mem_of_getElem? (i := 43) rfl))) (id (hw _ (List.mem_of_getElem? (i := 44) rfl))) (by decide) (backOf (W := 1) (rm8 l Z a0 hw [] b11 (w7 &&& (255 : Int32)) ((w10 &&& (255 : Int32)).toInt64) ((p2 + (1 : Int32)) + (1 : Int32)) (.int (0 : Int32)) (.long (0 : Int64)) (.int (0 : Int32)) h11 n0 (Nat.le_trans Z0 E11.1) E_b11 F_identifier_b11 g_b11 F_length_b11 F_contentStart_b11) hZ (hw _ (List.mem_of_getElem? (i := 44) rfl)) (hw _ (List.mem_of_getElem? (i := 41) rfl)) (by decide) (by decide)) (g := (mkF m 270 #[.val (.ref a1), .val (.int p2), .val (.int ((p2 + (1 : Int32)) + (1 : Int32))), .val (.int (w7 &&& (255 : Int32))), .val (.int (w10 &&& (255 : Int32))), .val (.long ((w10 &&& (255 : Int32)).toInt64)), .second, .unset, .unset] [(.int ((p2 + (1 : Int32)) + (1 : Int32))), (.long ((w10 &&& (255 : Int32)).toInt64)), (.int (w7 &&& (255 : Int32))), (.ref b11), (.ref b11)])) rfl (by rw [hml]; rfl) (Steps.refl _) (a := b11) (argsL := [(.int (w7 &&& (255 : Int32))), (.long ((w10 &&& (255 : Int32)).toInt64)), (.int ((p2 + (1 : Int32)) + (1 : Int32)))]) (rest := [(.ref b11)]) (lenOf pd_7_7 rfl) rfl (by show 2 * 0 + _ ≤ _; exact Nat.le_of_eq rfl) (hb hby d7_270) (fun _ _ => ⟨rfl, e11, (by decide : 1 + 0 ≤ _), (by decide : 3 + 0 ≤ _)⟩)
  dsimp only [Pt.U, Pt.locs, Pt.cells, Pt.slots] at X12 l12 y12 z12 st12 hQ12
  subst l12 y12 z12
  obtain ⟨rfl, N12q, KQ12', E12q, Fi12q, Fl12q, Fc12q⟩ := hQ12
  have N12 := Fr.app N0 N12q
  have KQ12 : Keep h11 T12.heap [b11] := KQ12'
  have K12 : Keep h0 T12.heap [] := K11.trans KQ12 (allS (Or.inr sz_b11) all0)
  obtain ⟨fs, hr, hrun, hended, hW, hsame⟩ := X12.leave (v := some (.ref b11)) (fun h => by rw [Bd.returns] at h; cases h)
  refine ⟨_, _, pre0 _ ?_, hrun, hended, _, _, rfl, ?_, ⟨_, rfl⟩, hW, hsame.mono (by decide) (by decide)⟩
  -- 4. STEPS
  · show Steps p.tables e below (s₁.setTop (mkF m 0 #[.val (.ref a1), .val (.int p2), .unset, .unset, .unset, .unset, .unset, .unset, .unset] [])) _
    refine XS.iloadN X0.here hx rfl (hb hby d7_0) rfl ?_
    show Steps p.tables e below (s₁.setTop (mkF m 1 #[.val (.ref a1), .val (.int p2), .unset, .unset, .unset, .unset, .unset, .unset, .unset] [(.int p2)])) _
    refine XS.istoreN X0.here hx rfl (hb hby d7_1) rfl (l' := #[.val (.ref a1), .val (.int p2), .val (.int p2), .unset, .unset, .unset, .unset, .unset, .unset]) rfl ?_
    show Steps p.tables e below (s₁.setTop (mkF m 2 #[.val (.ref a1), .val (.int p2), .val (.int p2), .unset, .unset, .unset, .unset, .unset, .unset] [])) _
    refine XS.iloadN X0.here hx rfl (hb hby d7_2) rfl ?_
    show Steps p.tables e below (s₁.setTop (mkF m 3 #[.val (.ref a1), .val (.int p2), .val (.int p2), .unset, .unset, .unset, .unset, .unset, .unset] [(.int p2)])) _
    refine XS.aloadN X0.here hx rfl (hb hby d7_3) rfl rfl ?_
    show Steps p.tables e below (s₁.setTop (mkF m 4 #[.val (.ref a1), .val (.int p2), .val (.int p2), .unset, .unset, .unset, .unset, .unset, .unset] [(.ref a1), (.int p2)])) _
    refine st4 _ ?_
    show Steps p.tables e below (T4.setTop (mkF m 7 #[.val (.ref a1), .val (.int p2), .val (.int p2), .unset, .unset, .unset, .unset, .unset, .unset] [(.int w3), (.int p2)])) _
    refine XS.icmpYes X4.here hx rfl (pc0 := 7) (pc' := 12) rfl (hb hby d7_7) rfl (tlt hc7).1 (by decide) (by decide) ?_
    show Steps p.tables e below (T4.setTop (mkF m 12 #[.val (.ref a1), .val (.int p2), .val (.int p2), .unset, .unset, .unset, .unset, .unset, .unset] [])) _
    refine XS.aloadN X4.here hx rfl (hb hby d7_12) rfl rfl ?_
    show Steps p.tables e below (T4.setTop (mkF m 13 #[.val (.ref a1), .val (.int p2), .val (.int p2), .unset, .unset, .unset, .unset, .unset, .unset] [(.ref a1)])) _
    refine st6 _ ?_
    show Steps p.tables e below (T6.setTop (mkF m 16 #[.val (.ref a1), .val (.int p2), .val (.int p2), .unset, .unset, .unset, .unset, .unset, .unset] [(.ref w5)])) _
    refine XS.iloadN X6.here hx rfl (hb hby d7_16) rfl ?_
    show Steps p.tables e below (T6.setTop (mkF m 17 #[.val (.ref a1), .val (.int p2), .val (.int p2), .unset, .unset, .unset, .unset, .unset, .unset] [(.int p2), (.ref w5)])) _
    refine XS.iinc X6.here hx rfl (hb hby d7_17) rfl (l' := #[.val (.ref a1), .val (.int p2), .val (.int (p2 + (1 : Int32))), .unset, .unset, .unset, .unset, .unset, .unset]) rfl ?_
    show Steps p.tables e below (T6.setTop (mkF m 20 #[.val (.ref a1), .val (.int p2), .val (.int (p2 + (1 : Int32))), .unset, .unset, .unset, .unset, .unset, .unset] [(.int p2), (.ref w5)])) _
    refine X6.baloadBytes hx (j := p2) (v := (.int w7)) (by rw [e6]; exact Ar_w5.1) (State.isArrayOf_alike hZ.alike Ar_w5.2.1) Ar_w5.2.2 hin20 hat20 (g := (mkF m 20 #[.val (.ref a1), .val (.int p2), .val (.int (p2 + (1 : Int32))), .unset, .unset, .unset, .unset, .unset, .unset] [(.int p2), (.ref w5)])) rfl rfl (hb hby d7_20) _ ?_
    show Steps p.tables e below (T6.setTop (mkF m 21 #[.val (.ref a1), .val (.int p2), .val (.int (p2 + (1 : Int32))), .unset, .unset, .unset, .unset, .unset, .unset] [(.int w7)])) _
    refine XS.sipush X6.here hx rfl (hb hby d7_21) ?_
    show Steps p.tables e below (T6.setTop (mkF m 24 #[.val (.ref a1), .val (.int p2), .val (.int (p2 + (1 : Int32))), .unset, .unset, .unset, .unset, .unset, .unset] [(.int (255 : Int32)), (.int w7)])) _
    refine XS.iand X6.here hx rfl (hb hby d7_24) rfl ?_
    show Steps p.tables e below (T6.setTop (mkF m 25 #[.val (.ref a1), .val (.int p2), .val (.int (p2 + (1 : Int32))), .unset, .unset, .unset, .unset, .unset, .unset] [(.int (w7 &&& (255 : Int32)))])) _
    refine XS.istoreN X6.here hx rfl (hb hby d7_25) rfl (l' := #[.val (.ref a1), .val (.int p2), .val (.int (p2 + (1 : Int32))), .val (.int (w7 &&& (255 : Int32))), .unset, .unset, .unset, .unset, .unset]) rfl ?_
    show Steps p.tables e below (T6.setTop (mkF m 26 #[.val (.ref a1), .val (.int p2), .val (.int (p2 + (1 : Int32))), .val (.int (w7 &&& (255 : Int32))), .unset, .unset, .unset, .unset, .unset] [])) _
    refine XS.iloadN X6.here hx rfl (hb hby d7_26) rfl ?_
    show Steps p.tables e below (T6.setTop (mkF m 27 #[.val (.ref a1), .val (.int p2), .val (.int (p2 + (1 : Int32))), .val (.int (w7 &&& (255 : Int32))), .unset, .unset, .unset, .unset, .unset] [(.int (w7 &&& (255 : Int32)))])) _
    refine XS.bipush X6.here hx rfl (hb hby d7_27) ?_
    show Steps p.tables e below (T6.setTop (mkF m 29 #[.val (.ref a1), .val (.int p2), .val (.int (p2 + (1 : Int32))), .val (.int (w7 &&& (255 : Int32))), .unset, .unset, .unset, .unset, .unset] [(.int (31 : Int32)), (.int (w7 &&& (255 : Int32)))])) _
    refine XS.iand X6.here hx rfl (hb hby d7_29) rfl ?_
    show Steps p.tables e below (T6.setTop (mkF m 30 #[.val (.ref a1), .val (.int p2), .val (.int (p2 + (1 : Int32))), .val (.int (w7 &&& (255 : Int32))), .unset, .unset, .unset, .unset, .unset] [(.int ((w7 &&& (255 : Int32)) &&& (31 : Int32)))])) _
    refine XS.bipush X6.here hx rfl (hb hby d7_30) ?_
    show Steps p.tables e below (T6.setTop (mkF m 32 #[.val (.ref a1), .val (.int p2), .val (.int (p2 + (1 : Int32))), .val (.int (w7 &&& (255 : Int32))), .unset, .unset, .unset, .unset, .unset] [(.int (31 : Int32)), (.int ((w7 &&& (255 : Int32)) &&& (31 : Int32)))])) _
    refine XS.icmpYes X6.here hx rfl (pc0 := 32) (pc' := 69) rfl (hb hby d7_32) rfl (feq hc32).2 (by decide) (by decide) ?_
    show Steps p.tables e below (T6.setTop (mkF m 69 #[.val (.ref a1), .val (.int p2), .val (.int (p2 + (1 : Int32))), .val (.int (w7 &&& (255 : Int32))), .unset, .unset, .unset, .unset, .unset] [])) _
    refine XS.iloadN X6.here hx rfl (hb hby d7_69) rfl ?_
    show Steps p.tables e below (T6.setTop (mkF m 70 #[.val (.ref a1), .val (.int p2), .val (.int (p2 + (1 : Int32))), .val (.int (w7 &&& (255 : Int32))), .unset, .unset, .unset, .unset, .unset] [(.int (p2 + (1 : Int32)))])) _
    refine XS.aloadN X6.here hx rfl (hb hby d7_70) rfl rfl ?_
    show Steps p.tables e below (T6.setTop (mkF m 71 #[.val (.ref a1), .val (.int p2), .val (.int (p2 + (1 : Int32))), .val (.int (w7 &&& (255 : Int32))), .unset, .unset, .unset, .unset, .unset] [(.ref a1), (.int (p2 + (1 : Int32)))])) _
    refine st8 _ ?_
    show Steps p.tables e below (T8.setTop (mkF m 74 #[.val (.ref a1), .val (.int p2), .val (.int (p2 + (1 : Int32))), .val (.int (w7 &&& (255 : Int32))), .unset, .unset, .unset, .unset, .unset] [(.int w3), (.int (p2 + (1 : Int32)))])) _
    refine XS.icmpYes X8.here hx rfl (pc0 := 74) (pc' := 79) rfl (hb hby d7_74) rfl (tlt hc74).1 (by decide) (by decide) ?_
    show Steps p.tables e below (T8.setTop (mkF m 79 #[.val (.ref a1), .val (.int p2), .val (.int (p2 + (1 : Int32))), .val (.int (w7 &&& (255 : Int32))), .unset, .unset, .unset, .unset, .unset] [])) _
    refine XS.aloadN X8.here hx rfl (hb hby d7_79) rfl rfl ?_
    show Steps p.tables e below (T8.setTop (mkF m 80 #[.val (.ref a1), .val (.int p2), .val (.int (p2 + (1 : Int32))), .val (.int (w7 &&& (255 : Int32))), .unset, .unset, .unset, .unset, .unset] [(.ref a1)])) _
    refine st9 _ ?_
    show Steps p.tables e below (T9.setTop (mkF m 83 #[.val (.ref a1), .val (.int p2), .val (.int (p2 + (1 : Int32))), .val (.int (w7 &&& (255 : Int32))), .unset, .unset, .unset, .unset, .unset] [(.ref w5)])) _
    refine XS.iloadN X9.here hx rfl (hb hby d7_83) rfl ?_
    show Steps p.tables e below (T9.setTop (mkF m 84 #[.val (.ref a1), .val (.int p2), .val (.int (p2 + (1 : Int32))), .val (.int (w7 &&& (255 : Int32))), .unset, .unset, .unset, .unset, .unset] [(.int (p2 + (1 : Int32))), (.ref w5)])) _
    refine XS.iinc X9.here hx rfl (hb hby d7_84) rfl (l' := #[.val (.ref a1), .val (.int p2), .val (.int ((p2 + (1 : Int32)) + (1 : Int32))), .val (.int (w7 &&& (255 : Int32))), .unset, .unset, .unset, .unset, .unset]) rfl ?_
    show Steps p.tables e below (T9.setTop (mkF m 87 #[.val (.ref a1), .val (.int p2), .val (.int ((p2 + (1 : Int32)) + (1 : Int32))), .val (.int (w7 &&& (255 : Int32))), .unset, .unset, .unset, .unset, .unset] [(.int (p2 + (1 : Int32))), (.ref w5)])) _
    refine X9.baloadBytes hx (j := (p2 + (1 : Int32))) (v := (.int w10)) (by rw [e9]; exact Ar_w5.1) (State.isArrayOf_alike hZ.alike Ar_w5.2.1) Ar_w5.2.2 hin87 hat87 (g := (mkF m 87 #[.val (.ref a1), .val (.int p2), .val (.int ((p2 + (1 : Int32)) + (1 : Int32))), .val (.int (w7 &&& (255 : Int32))), .unset, .unset, .unset, .unset, .unset] [(.int (p2 + (1 : Int32))), (.ref w5)])) rfl rfl (hb hby d7_87) _ ?_
    show Steps p.tables e below (T9.setTop (mkF m 88 #[.val (.ref a1), .val (.int p2), .val (.int ((p2 + (1 : Int32)) + (1 : Int32))), .val (.int (w7 &&& (255 : Int32))), .unset, .unset, .unset, .unset, .unset] [(.int w10)])) _
    refine XS.sipush X9.here hx rfl (hb hby d7_88) ?_
    show Steps p.tables e below (T9.setTop (mkF m 91 #[.val (.ref a1), .val (.int p2), .val (.int ((p2 + (1 : Int32)) + (1 : Int32))), .val (.int (w7 &&& (255 : Int32))), .unset, .unset, .unset, .unset, .unset] [(.int (255 : Int32)), (.int w10)])) _
    refine XS.iand X9.here hx rfl (hb hby d7_91) rfl ?_
    show Steps p.tables e below (T9.setTop (mkF m 92 #[.val (.ref a1), .val (.int p2), .val (.int ((p2 + (1 : Int32)) + (1 : Int32))), .val (.int (w7 &&& (255 : Int32))), .unset, .unset, .unset, .unset, .unset] [(.int (w10 &&& (255 : Int32)))])) _
    refine XS.istore X9.here hx rfl (hb hby d7_92) rfl (l' := #[.val (.ref a1), .val (.int p2), .val (.int ((p2 + (1 : Int32)) + (1 : Int32))), .val (.int (w7 &&& (255 : Int32))), .val (.int (w10 &&& (255 : Int32))), .unset, .unset, .unset, .unset]) rfl ?_
    show Steps p.tables e below (T9.setTop (mkF m 94 #[.val (.ref a1), .val (.int p2), .val (.int ((p2 + (1 : Int32)) + (1 : Int32))), .val (.int (w7 &&& (255 : Int32))), .val (.int (w10 &&& (255 : Int32))), .unset, .unset, .unset, .unset] [])) _
    refine XS.iload X9.here hx rfl (hb hby d7_94) rfl ?_
    show Steps p.tables e below (T9.setTop (mkF m 96 #[.val (.ref a1), .val (.int p2), .val (.int ((p2 + (1 : Int32)) + (1 : Int32))), .val (.int (w7 &&& (255 : Int32))), .val (.int (w10 &&& (255 : Int32))), .unset, .unset, .unset, .unset] [(.int (w10 &&& (255 : Int32)))])) _
    refine XS.sipush X9.here hx rfl (hb hby d7_96) ?_
    show Steps p.tables e below (T9.setTop (mkF m 99 #[.val (.ref a1), .val (.int p2), .val (.int ((p2 + (1 : Int32)) + (1 : Int32))), .val (.int (w7 &&& (255 : Int32))), .val (.int (w10 &&& (255 : Int32))), .unset, .unset, .unset, .unset] [(.int (128 : Int32)), (.int (w10 &&& (255 : Int32)))])) _
    refine XS.icmpNo X9.here hx rfl (hb hby d7_99) rfl (tlt hc99).2.1 ?_
    show Steps p.tables e below (T9.setTop (mkF m 102 #[.val (.ref a1), .val (.int p2), .val (.int ((p2 + (1 : Int32)) + (1 : Int32))), .val (.int (w7 &&& (255 : Int32))), .val (.int (w10 &&& (255 : Int32))), .unset, .unset, .unset, .unset] [])) _
    refine XS.iload X9.here hx rfl (hb hby d7_102) rfl ?_
    show Steps p.tables e below (T9.setTop (mkF m 104 #[.val (.ref a1), .val (.int p2), .val (.int ((p2 + (1 : Int32)) + (1 : Int32))), .val (.int (w7 &&& (255 : Int32))), .val (.int (w10 &&& (255 : Int32))), .unset, .unset, .unset, .unset] [(.int (w10 &&& (255 : Int32)))])) _
    refine XS.i2l X9.here hx rfl (hb hby d7_104) rfl ?_
    show Steps p.tables e below (T9.setTop (mkF m 105 #[.val (.ref a1), .val (.int p2), .val (.int ((p2 + (1 : Int32)) + (1 : Int32))), .val (.int (w7 &&& (255 : Int32))), .val (.int (w10 &&& (255 : Int32))), .unset, .unset, .unset, .unset] [(.long ((w10 &&& (255 : Int32)).toInt64))])) _
    refine XS.lstore X9.here hx rfl (hb hby d7_105) rfl (l' := #[.val (.ref a1), .val (.int p2), .val (.int ((p2 + (1 : Int32)) + (1 : Int32))), .val (.int (w7 &&& (255 : Int32))), .val (.int (w10 &&& (255 : Int32))), .val (.long ((w10 &&& (255 : Int32)).toInt64)), .second, .unset, .unset]) rfl ?_
    show Steps p.tables e below (T9.setTop (mkF m 107 #[.val (.ref a1), .val (.int p2), .val (.int ((p2 + (1 : Int32)) + (1 : Int32))), .val (.int (w7 &&& (255 : Int32))), .val (.int (w10 &&& (255 : Int32))), .val (.long ((w10 &&& (255 : Int32)).toInt64)), .second, .unset, .unset] [])) _
    refine XS.goto X9.here hx rfl (pc0 := 107) (pc' := 262) rfl (hb hby d7_107) (by decide) (by decide) ?_
    show Steps p.tables e below (T9.setTop (mkF m 262 #[.val (.ref a1), .val (.int p2), .val (.int ((p2 + (1 : Int32)) + (1 : Int32))), .val (.int (w7 &&& (255 : Int32))), .val (.int (w10 &&& (255 : Int32))), .val (.long ((w10 &&& (255 : Int32)).toInt64)), .second, .unset, .unset] [])) _
    refine st11 _ ?_
    show Steps p.tables e below (T11.setTop (mkF m 265 #[.val (.ref a1), .val (.int p2), .val (.int ((p2 + (1 : Int32)) + (1 : Int32))), .val (.int (w7 &&& (255 : Int32))), .val (.int (w10 &&& (255 : Int32))), .val (.long ((w10 &&& (255 : Int32)).toInt64)), .second, .unset, .unset] [(.ref b11)])) _
    refine XS.dup X11.here hx rfl (hb hby d7_265) rfl rfl ?_
    show Steps p.tables e below (T11.setTop (mkF m 266 #[.val (.ref a1), .val (.int p2), .val (.int ((p2 + (1 : Int32)) + (1 : Int32))), .val (.int (w7 &&& (255 : Int32))), .val (.int (w10 &&& (255 : Int32))), .val (.long ((w10 &&& (255 : Int32)).toInt64)), .second, .unset, .unset] [(.ref b11), (.ref b11)])) _
    refine XS.iloadN X11.here hx rfl (hb hby d7_266) rfl ?_
    show Steps p.tables e below (T11.setTop (mkF m 267 #[.val (.ref a1), .val (.int p2), .val (.int ((p2 + (1 : Int32)) + (1 : Int32))), .val (.int (w7 &&& (255 : Int32))), .val (.int (w10 &&& (255 : Int32))), .val (.long ((w10 &&& (255 : Int32)).toInt64)), .second, .unset, .unset] [(.int (w7 &&& (255 : Int32))), (.ref b11), (.ref b11)])) _
    refine XS.lload X11.here hx rfl (hb hby d7_267) rfl ?_
    show Steps p.tables e below (T11.setTop (mkF m 269 #[.val (.ref a1), .val (.int p2), .val (.int ((p2 + (1 : Int32)) + (1 : Int32))), .val (.int (w7 &&& (255 : Int32))), .val (.int (w10 &&& (255 : Int32))), .val (.long ((w10 &&& (255 : Int32)).toInt64)), .second, .unset, .unset] [(.long ((w10 &&& (255 : Int32)).toInt64)), (.int (w7 &&& (255 : Int32))), (.ref b11), (.ref b11)])) _
    refine XS.iloadN X11.here hx rfl (hb hby d7_269) rfl ?_
    show Steps p.tables e below (T11.setTop (mkF m 270 #[.val (.ref a1), .val (.int p2), .val (.int ((p2 + (1 : Int32)) + (1 : Int32))), .val (.int (w7 &&& (255 : Int32))), .val (.int (w10 &&& (255 : Int32))), .val (.long ((w10 &&& (255 : Int32)).toInt64)), .second, .unset, .unset] [(.int ((p2 + (1 : Int32)) + (1 : Int32))), (.long ((w10 &&& (255 : Int32)).toInt64)), (.int (w7 &&& (255 : Int32))), (.ref b11), (.ref b11)])) _
    refine st12.trans ?_
    show Steps p.tables e below (T12.setTop (mkF m 273 #[.val (.ref a1), .val (.int p2), .val (.int ((p2 + (1 : Int32)) + (1 : Int32))), .val (.int (w7 &&& (255 : Int32))), .val (.int (w10 &&& (255 : Int32))), .val (.long ((w10 &&& (255 : Int32)).toInt64)), .second, .unset, .unset] [(.ref b11)])) _
    jvm_step X12.here [X12.here.top, hx, (hb hby d7_273), X12.method', Bd.returns, Value.isRef, FieldType.isReference]
    first | (intro acts; rw [hr _ acts rfl rfl rfl]) | rw [hr _ _ rfl rfl rfl]
    exact Steps.refl _
  · show QHd Z (w7 &&& (255 : Int32)) ((w10 &&& (255 : Int32)).toInt64) ((p2 + (1 : Int32)) + (1 : Int32)) h0 n0 _ T12.heap _
    exact ⟨b11, rfl, N12, g11, K12, E12q, Fi12q, Fl12q, Fc12q⟩
set_option maxRecDepth 65536 in
set_option maxHeartbeats 40000000 in
theorem rm7 (l : Launch) (Z : State) (a0 : Array Value) (hw : ∀ d ∈ tables_1, d.before a0 Z = true) (ws : List Jvm.Cond) (a1 : Addr) (n : Int32) (r : Addr) (x y : Int32) (h0 : Heap) (n0 : Nat) (Z0 : n0 ≤ h0.size) (F1 : Fld Z h0 a1 "com/example/rosehip/rosehip/codec/BerReader" "limit" "I" (.int n)) (F2 : Fld Z h0 a1 "com/example/rosehip/rosehip/codec/BerReader" "bytes" "[B" (.ref r)) (B : By2 Z h0 r n x y) (h2 : (1 : Int32) < n) (hid : ¬ (((x &&& (255 : Int32)) &&& (31 : Int32)) = (31 : Int32))) (hln : (y &&& (255 : Int32)) < (128 : Int32)) :
    MetFree l (⟨"com/example/rosehip/rosehip/codec/BerReader", "header", "(I)Lcom/example/rosehip/rosehip/codec/BerReader$Header;"⟩ : MethodName) (head1 (Jvm.Cond.code (⟨"com/example/rosehip/rosehip/codec/BerReader", "header", "(I)Lcom/example/rosehip/rosehip/codec/BerReader$Header;"⟩ : MethodName) prog_7_method_18_code 9 (some (.object "com/example/rosehip/rosehip/codec/BerReader$Header")) :: ws) ({ frames := 3, cells := 1, slots := 3, locals := 41 } : Room)) (fun a U => a = #[(.ref a1), (.int (0 : Int32))] ∧ Z.Warmed39 U.vm ∧ U.heap = h0) (fun _ _ _ _ _ => True) (fun _ U o U' => ∃ v L, o = .returned v ∧ QHd Z (x &&& (255 : Int32)) ((y &&& (255 : Int32)).toInt64) (((0 : Int32) + (1 : Int32)) + (1 : Int32)) h0 n0 v U'.heap L ∧ FrameEnd U o U' L ({ frames := 3, cells := 1, slots := 3, locals := 41 } : Room).cells ({ frames := 3, cells := 1, slots := 3, locals := 41 } : Room).slots) := by
  obtain ⟨c, A, S, N, u0, u1⟩ := B
  have h0n : (0 : Int32) < n := by
    have e0 : (0 : Int32).toInt = 0 := rfl
    have e1 : (1 : Int32).toInt = 1 := rfl
    rw [Int32.lt_iff_toInt_lt] at h2 ⊢; omega
  exact rm7_ l Z a0 hw ws a1 (0 : Int32) n r x c y h0 n0 Z0 F1 F2 A (inb_of S ⟨by decide, h0n⟩) u0 (inb_of (j := (1 : Int32)) S ⟨by decide, h2⟩) u1 h0n hid h2 hln
def own_en (y : Int32) : Int32 := ((((0 : Int32) + (1 : Int32)) + (1 : Int32)) + (((y &&& (255 : Int32)).toInt64).toInt32))
theorem d6_0 : decode prog_7_method_6_code 0 = .ok (.aload_n 0, 1) := by decide +kernel
theorem d6_1 : decode prog_7_method_6_code 1 = .ok (.invokevirtual 45, 3) := by decide +kernel
theorem d6_4 : decode prog_7_method_6_code 4 = .ok (.ifCond .ne 23, 3) := by decide +kernel
theorem d6_27 : decode prog_7_method_6_code 27 = .ok (.aload_n 0, 1) := by decide +kernel
theorem d6_28 : decode prog_7_method_6_code 28 = .ok (.getfield 18, 3) := by decide +kernel
theorem d6_31 : decode prog_7_method_6_code 31 = .ok (.istore_n 1, 1) := by decide +kernel
theorem d6_32 : decode prog_7_method_6_code 32 = .ok (.aload_n 0, 1) := by decide +kernel
theorem d6_33 : decode prog_7_method_6_code 33 = .ok (.iload_n 1, 1) := by decide +kernel
theorem d6_34 : decode prog_7_method_6_code 34 = .ok (.invokevirtual 25, 3) := by decide +kernel
theorem d6_37 : decode prog_7_method_6_code 37 = .ok (.astore_n 2, 1) := by decide +kernel
theorem d6_38 : decode prog_7_method_6_code 38 = .ok (.aload_n 2, 1) := by decide +kernel
theorem d6_39 : decode prog_7_method_6_code 39 = .ok (.ifnonnull 20, 3) := by decide +kernel
theorem d6_59 : decode prog_7_method_6_code 59 = .ok (.aload_n 2, 1) := by decide +kernel
theorem d6_60 : decode prog_7_method_6_code 60 = .ok (.invokevirtual 68, 3) := by decide +kernel
theorem d6_63 : decode prog_7_method_6_code 63 = .ok (.bipush (-33), 2) := by decide +kernel
theorem d6_65 : decode prog_7_method_6_code 65 = .ok (.iand, 1) := by decide +kernel
theorem d6_66 : decode prog_7_method_6_code 66 = .ok (.ifCond .ne 20, 3) := by decide +kernel
theorem d6_86 : decode prog_7_method_6_code 86 = .ok (.aload_n 2, 1) := by decide +kernel
theorem d6_87 : decode prog_7_method_6_code 87 = .ok (.invokevirtual 31, 3) := by decide +kernel
theorem d6_90 : decode prog_7_method_6_code 90 = .ok (.ldc2_w 29, 3) := by decide +kernel
theorem d6_93 : decode prog_7_method_6_code 93 = .ok (.lcmp, 1) := by decide +kernel
theorem d6_94 : decode prog_7_method_6_code 94 = .ok (.ifCond .ne 51, 3) := by decide +kernel
theorem d6_145 : decode prog_7_method_6_code 145 = .ok (.aload_n 2, 1) := by decide +kernel
theorem d6_146 : decode prog_7_method_6_code 146 = .ok (.invokevirtual 31, 3) := by decide +kernel
theorem d6_149 : decode prog_7_method_6_code 149 = .ok (.aload_n 0, 1) := by decide +kernel
theorem d6_150 : decode prog_7_method_6_code 150 = .ok (.getfield 22, 3) := by decide +kernel
theorem d6_153 : decode prog_7_method_6_code 153 = .ok (.aload_n 2, 1) := by decide +kernel
theorem d6_154 : decode prog_7_method_6_code 154 = .ok (.invokevirtual 37, 3) := by decide +kernel
theorem d6_157 : decode prog_7_method_6_code 157 = .ok (.isub, 1) := by decide +kernel
theorem d6_158 : decode prog_7_method_6_code 158 = .ok (.i2l, 1) := by decide +kernel
theorem d6_159 : decode prog_7_method_6_code 159 = .ok (.lcmp, 1) := by decide +kernel
theorem d6_160 : decode prog_7_method_6_code 160 = .ok (.ifCond .le 20, 3) := by decide +kernel
theorem d6_180 : decode prog_7_method_6_code 180 = .ok (.aload_n 2, 1) := by decide +kernel
theorem d6_181 : decode prog_7_method_6_code 181 = .ok (.invokevirtual 37, 3) := by decide +kernel
theorem d6_184 : decode prog_7_method_6_code 184 = .ok (.aload_n 2, 1) := by decide +kernel
theorem d6_185 : decode prog_7_method_6_code 185 = .ok (.invokevirtual 31, 3) := by decide +kernel
theorem d6_188 : decode prog_7_method_6_code 188 = .ok (.l2i, 1) := by decide +kernel
theorem d6_189 : decode prog_7_method_6_code 189 = .ok (.iadd, 1) := by decide +kernel
theorem d6_190 : decode prog_7_method_6_code 190 = .ok (.istore_n 3, 1) := by decide +kernel
theorem d6_191 : decode prog_7_method_6_code 191 = .ok (.iload_n 3, 1) := by decide +kernel
theorem d6_192 : decode prog_7_method_6_code 192 = .ok (.istore 4, 2) := by decide +kernel
theorem d6_194 : decode prog_7_method_6_code 194 = .ok (.aload_n 0, 1) := by decide +kernel
theorem d6_195 : decode prog_7_method_6_code 195 = .ok (.iload 4, 2) := by decide +kernel
theorem d6_197 : decode prog_7_method_6_code 197 = .ok (.putfield 18, 3) := by decide +kernel
theorem d6_200 : decode prog_7_method_6_code 200 = .ok (.new 77, 3) := by decide +kernel
theorem d6_203 : decode prog_7_method_6_code 203 = .ok (.dup, 1) := by decide +kernel
theorem d6_204 : decode prog_7_method_6_code 204 = .ok (.aload_n 2, 1) := by decide +kernel
theorem d6_205 : decode prog_7_method_6_code 205 = .ok (.invokevirtual 68, 3) := by decide +kernel
theorem d6_208 : decode prog_7_method_6_code 208 = .ok (.iload_n 1, 1) := by decide +kernel
theorem d6_209 : decode prog_7_method_6_code 209 = .ok (.aload_n 2, 1) := by decide +kernel
theorem d6_210 : decode prog_7_method_6_code 210 = .ok (.invokevirtual 37, 3) := by decide +kernel
theorem d6_213 : decode prog_7_method_6_code 213 = .ok (.iload_n 3, 1) := by decide +kernel
theorem d6_214 : decode prog_7_method_6_code 214 = .ok (.iload 4, 2) := by decide +kernel
theorem d6_216 : decode prog_7_method_6_code 216 = .ok (.invokespecial 79, 3) := by decide +kernel
theorem d6_219 : decode prog_7_method_6_code 219 = .ok (.areturn, 1) := by decide +kernel
theorem pn_6 : plainName "com/example/rosehip/rosehip/codec/BerReader" = true := by first | (simp [plainName, overriddenIn]; done) | decide +kernel
theorem pd_6_4 : parseMethodDescriptor "()Z" = some ⟨[], some .boolean⟩ := by decide +kernel
theorem pd_6_6 : parseMethodDescriptor "(I)Lcom/example/rosehip/rosehip/codec/BerReader$Header;" = some ⟨[.int], some (.object "com/example/rosehip/rosehip/codec/BerReader$Header")⟩ := by decide +kernel
theorem pd_6_8 : parseMethodDescriptor "()I" = some ⟨[], some .int⟩ := by decide +kernel
theorem pd_6_9 : parseMethodDescriptor "()J" = some ⟨[], some .long⟩ := by decide +kernel
theorem pd_6_10 : parseMethodDescriptor "(IIIII)V" = some ⟨[.int, .int, .int, .int, .int], none⟩ := by decide +kernel
theorem ef_6 (m : MethodId) (x0 : Addr) : entryFrame m #[(.ref x0)] 5 = mkF m 0 #[.val (.ref x0), .unset, .unset, .unset, .unset] [] := by first | (simp [entryFrame, mkF, argsToLocals, Value.category]; done) | rfl
set_option maxRecDepth 65536 in
set_option maxHeartbeats 40000000 in
theorem rm6 (l : Launch) (Z : State) (a0 : Array Value) (hw : ∀ d ∈ tables_1, d.before a0 Z = true) (ws : List Jvm.Cond) (a1 : Addr) (nn : Int32) (r : Addr) (xx : Int32) (yy : Int32) (h0 : Heap) (n0 : Nat) (Z0 : n0 ≤ h0.size) (F_bytes : Fld Z h0 a1 "com/example/rosehip/rosehip/codec/BerReader" "bytes" "[B" (.ref r)) (B : By2 Z h0 r nn xx yy) (h2 : (1 : Int32) < nn) (hid : ¬ (((xx &&& (255 : Int32)) &&& (31 : Int32)) = (31 : Int32))) (hln : (yy &&& (255 : Int32)) < (128 : Int32)) (F_position_a1 : Fld Z h0 a1 "com/example/rosehip/rosehip/codec/BerReader" "position" "I" (.int (0 : Int32))) (F_limit_a1 : Fld Z h0 a1 "com/example/rosehip/rosehip/codec/BerReader" "limit" "I" (.int nn)) (E_a1 : Exa Z h0 a1 "com/example/rosehip/rosehip/codec/BerReader") (g_a1 : n0 ≤ a1) (hc4 : ¬ ((fv5 (0 : Int32) nn) = (0 : Int32))) (hc66 : ¬ (((xx &&& (255 : Int32)) &&& (-33 : Int32)) = (0 : Int32))) (hc94 : ¬ ((lcmpW ((yy &&& (255 : Int32)).toInt64) (-1 : Int64)) = (0 : Int32))) (hc160 : ¬ ((0 : Int32) < (lcmpW ((yy &&& (255 : Int32)).toInt64) ((nn - (((0 : Int32) + (1 : Int32)) + (1 : Int32))).toInt64)))) :
    MetFree l (⟨"com/example/rosehip/rosehip/codec/BerReader", "read", "()Lcom/example/rosehip/rosehip/codec/BerReader$Element;"⟩ : MethodName) (head1 (Jvm.Cond.code (⟨"com/example/rosehip/rosehip/codec/BerReader", "read", "()Lcom/example/rosehip/rosehip/codec/BerReader$Element;"⟩ : MethodName) prog_7_method_6_code 5 (some (.object "com/example/rosehip/rosehip/codec/BerReader$Element")) :: ws) ({ frames := 4, cells := 2, slots := 8, locals := 61 } : Room)) (fun a U => a = #[(.ref a1)] ∧ Z.Warmed39 U.vm ∧ U.heap = h0) (fun _ _ _ _ _ => True) (fun _ U o U' => ∃ v L, o = .returned v ∧ QRd Z a1 nn (own_en yy) h0 n0 v U'.heap L ∧ FrameEnd U o U' L ({ frames := 4, cells := 2, slots := 8, locals := 61 } : Room).cells ({ frames := 4, cells := 2, slots := 8, locals := 61 } : Room).slots) := by
  refine MetFree.of_bodySF (plainFor_of_name pn_6) hisR ?_
  intro p e s m args below meth c s₁ Bd hml0 hP hK
  obtain ⟨rfl, hZ, hh⟩ := hP
  have hx := Bd.exec
  have hby := Bd.bytes
  have hml : c.maxLocals = 5 := hml0
  have hown : s.vm.findClass "com/example/rosehip/rosehip/codec/BerReader" = some m.cls := findClass_of_methodNamed Bd.named
  have hnm := (name_of_methodNamed Bd.named Bd.method).1
  have X0 : Stand p l e ({ frames := 4, cells := 2, slots := 8, locals := 61 } : Room) s m #[(.ref a1)] below meth c s₁ [] 0 0 := Stand.of_body Bd
  have e0 : s₁.heap = h0 := by rw [← hh, Bd.state]; rfl
  have N0 := Fr.nil n0
  have pre0 : ∀ t, Steps p.tables e below (s₁.setTop (mkF m 0 #[.val (.ref a1), .unset, .unset, .unset, .unset] [])) t → Steps p.tables e below (s₁.setTop (entryFrame m #[(.ref a1)] 5)) t := fun t k => castTop (ef_6 m a1) k
  -- 3. LAWS
  -- pc 1: com/example/rosehip/rosehip/codec/BerReader.hasMore by the contract of the body that the receiver's class selects, rm5
  obtain ⟨cq2, kq2, q2a, q2b, q2c⟩ := isOf hZ e0 E_a1
  obtain ⟨_, _, ⟨T2, L2, k2, n2⟩, -, X2, ⟨Lc2, hQ2, l2, y2, z2⟩, st2⟩ := X0.virtualBack hx (y := (⟨"com/example/rosehip/rosehip/codec/BerReader", "hasMore", "()Z"⟩ : MethodName)) (z := (⟨"com/example/rosehip/rosehip/codec/BerReader", "hasMore", "()Z"⟩ : MethodName)) hown (mvT hZ (hw _ (List.mem_of_getElem? (i := 34) rfl))) (mvT hZ (hw _ (List.mem_of_getElem? (i := 24) rfl))) (notFace_of_selects (args := #[]) (mvT hZ (hw _ (List.mem_of_getElem? (i := 26) rfl)))) (mvT hZ (hw _ (List.mem_of_getElem? (i := 26) rfl))) (mvT hZ (hw _ (List.mem_of_getElem? (i := 25) rfl))) (by decide) (backOf (W := 0) (rm5 l Z a0 hw [] a1 (0 : Int32) nn h0 n0 Z0 F_position_a1 F_limit_a1) hZ (hw _ (List.mem_of_getElem? (i := 27) rfl)) (hw _ (List.mem_of_getElem? (i := 7) rfl)) (by decide) (by decide)) q2a q2c (g := (mkF m 1 #[.val (.ref a1), .unset, .unset, .unset, .unset] [(.ref a1)])) rfl (by rw [hml]; rfl) (Steps.refl _) (argsL := []) (rest := []) (lenOf pd_6_4 rfl) rfl (by show 2 * 0 + _ ≤ _; exact Nat.le_of_eq rfl) (hb hby d6_1) (fun _ _ => ⟨rfl, e0, (by decide : 0 + 0 ≤ _), (by decide : 0 + 0 ≤ _)⟩)
  dsimp only [Pt.U, Pt.locs, Pt.cells, Pt.slots] at X2 l2 y2 z2 st2 hQ2
  subst l2 y2 z2
  obtain ⟨rfl, N2q, eh2⟩ := hQ2
  have N2 := Fr.app N0 N2q
  obtain ⟨T3, X3, e3, st3⟩ := getF X2 hx hZ hown (host := "") (Or.inl (hw _ (List.mem_of_getElem? (i := 19) rfl))) Via.refl eh2 F_position_a1 (g := (mkF m 28 #[.val (.ref a1), .unset, .unset, .unset, .unset] [(.ref a1)])) rfl rfl (hb hby d6_28)
  -- pc 34: a private method: rm7
  obtain ⟨cq4, q4, q4'⟩ := E_a1.cell
  obtain ⟨_, _, ⟨T4, L4, k4, n4⟩, -, X4, ⟨Lc4, hQ4, l4, y4, z4⟩, st4⟩ := X3.privateBack hx (y := (⟨"com/example/rosehip/rosehip/codec/BerReader", "header", "(I)Lcom/example/rosehip/rosehip/codec/BerReader$Header;"⟩ : MethodName)) hown (mvT hZ (hw _ (List.mem_of_getElem? (i := 35) rfl))) (mvT hZ (hw _ (List.mem_of_getElem? (i := 36) rfl))) (own_selP hZ (hw _ (List.mem_of_getElem? (i := 37) rfl)) (hw _ (List.mem_of_getElem? (i := 36) rfl)) (hw _ (List.mem_of_getElem? (i := 6) rfl)) (by decide)) (Cond.privateMethod_at (mvP hZ (hw _ (List.mem_of_getElem? (i := 37) rfl)) (args := #[]))) (mvT hZ (hw _ (List.mem_of_getElem? (i := 38) rfl))) (by decide) (backOf (W := 0) (rm7 l Z a0 hw [] a1 nn r xx yy h0 n0 Z0 F_limit_a1 F_bytes B h2 hid hln) hZ (hw _ (List.mem_of_getElem? (i := 38) rfl)) (hw _ (List.mem_of_getElem? (i := 7) rfl)) (by decide) (by decide)) (g := (mkF m 34 #[.val (.ref a1), .val (.int (0 : Int32)), .unset, .unset, .unset] [(.int (0 : Int32)), (.ref a1)])) rfl (by rw [hml]; rfl) (Steps.refl _) (a := a1) (by rw [e3]; exact q4) q4' (argsL := [(.int (0 : Int32))]) (rest := []) (lenOf pd_6_6 rfl) rfl (by show 2 * 0 + _ ≤ _; exact Nat.le_of_eq rfl) (hb hby d6_34) (fun _ _ => ⟨rfl, e3, (by decide : 0 + 1 ≤ _), (by decide : 0 + 3 ≤ _)⟩)
  dsimp only [Pt.U, Pt.locs, Pt.cells, Pt.slots] at X4 l4 y4 z4 st4 hQ4
  subst l4 y4 z4
  obtain ⟨b4, rfl, N4q, g4, KQ4', E4q, Fi4q, Fl4q, Fc4q⟩ := hQ4
  have N4 := Fr.app N2 N4q
  have g_b4 : n0 ≤ b4 := Nat.le_trans Z0 (Nat.le_of_eq g4.symm)
  have sz_b4 : h0.size ≤ b4 := Nat.le_of_eq g4.symm
  have KQ4 : Keep h0 T4.heap [] := KQ4'
  have K4 : Keep h0 T4.heap [a1] := (Keep.refl h0 [a1]).trans KQ4 all0
  -- pc 60: com/example/rosehip/rosehip/codec/BerReader$Header.identifier by the contract of the body that the receiver's class selects, rm10
  obtain ⟨cq5, kq5, q5a, q5b, q5c⟩ := isOf hZ rfl E4q
  obtain ⟨_, _, ⟨T5, L5, k5, n5⟩, -, X5, ⟨Lc5, hQ5, l5, y5, z5⟩, st5⟩ := X4.virtualBack hx (y := (⟨"com/example/rosehip/rosehip/codec/BerReader$Header", "identifier", "()I"⟩ : MethodName)) (z := (⟨"com/example/rosehip/rosehip/codec/BerReader$Header", "identifier", "()I"⟩ : MethodName)) hown (mvT hZ (hw _ (List.mem_of_getElem? (i := 57) rfl))) (mvT hZ (hw _ (List.mem_of_getElem? (i := 58) rfl))) (notFace_of_selects (args := #[]) (mvT hZ (hw _ (List.mem_of_getElem? (i := 60) rfl)))) (mvT hZ (hw _ (List.mem_of_getElem? (i := 60) rfl))) (mvT hZ (hw _ (List.mem_of_getElem? (i := 59) rfl))) (by decide) (backOf (W := 0) (rm10 l Z a0 hw [] b4 (xx &&& (255 : Int32)) T4.heap n0 (Nat.le_trans Z0 KQ4.1) Fi4q) hZ (hw _ (List.mem_of_getElem? (i := 61) rfl)) (hw _ (List.mem_of_getElem? (i := 41) rfl)) (by decide) (by decide)) q5a q5c (g := (mkF m 60 #[.val (.ref a1), .val (.int (0 : Int32)), .val (.ref b4), .unset, .unset] [(.ref b4)])) rfl (by rw [hml]; rfl) (Steps.refl _) (argsL := []) (rest := []) (lenOf pd_6_8 rfl) rfl (by show 2 * 0 + _ ≤ _; exact Nat.le_of_eq rfl) (hb hby d6_60) (fun _ _ => ⟨rfl, rfl, (by decide : 1 + 0 ≤ _), (by decide : 3 + 0 ≤ _)⟩)
  dsimp only [Pt.U, Pt.locs, Pt.cells, Pt.slots] at X5 l5 y5 z5 st5 hQ5
  subst l5 y5 z5
  obtain ⟨rfl, N5q, eh5⟩ := hQ5
  have N5 := Fr.app N4 N5q
  -- pc 87: com/example/rosehip/rosehip/codec/BerReader$Header.length by the contract of the body that the receiver's class selects, rm11
  obtain ⟨cq6, kq6, q6a, q6b, q6c⟩ := isOf hZ eh5 E4q
  obtain ⟨_, _, ⟨T6, L6, k6, n6⟩, -, X6, ⟨Lc6, hQ6, l6, y6, z6⟩, st6⟩ := X5.virtualBack hx (y := (⟨"com/example/rosehip/rosehip/codec/BerReader$Header", "length", "()J"⟩ : MethodName)) (z := (⟨"com/example/rosehip/rosehip/codec/BerReader$Header", "length", "()J"⟩ : MethodName)) hown (mvT hZ (hw _ (List.mem_of_getElem? (i := 62) rfl))) (mvT hZ (hw _ (List.mem_of_getElem? (i := 63) rfl))) (notFace_of_selects (args := #[]) (mvT hZ (hw _ (List.mem_of_getElem? (i := 65) rfl)))) (mvT hZ (hw _ (List.mem_of_getElem? (i := 65) rfl))) (mvT hZ (hw _ (List.mem_of_getElem? (i := 64) rfl))) (by decide) (backOf (W := 0) (rm11 l Z a0 hw [] b4 ((yy &&& (255 : Int32)).toInt64) T4.heap n0 (Nat.le_trans Z0 KQ4.1) Fl4q) hZ (hw _ (List.mem_of_getElem? (i := 66) rfl)) (hw _ (List.mem_of_getElem? (i := 41) rfl)) (by decide) (by decide)) q6a q6c (g := (mkF m 87 #[.val (.ref a1), .val (.int (0 : Int32)), .val (.ref b4), .unset, .unset] [(.ref b4)])) rfl (by rw [hml]; rfl) (Steps.refl _) (argsL := []) (rest := []) (lenOf pd_6_9 rfl) rfl (by show 2 * 0 + _ ≤ _; exact Nat.le_of_eq rfl) (hb hby d6_87) (fun _ _ => ⟨rfl, eh5, (by decide : 1 + 0 ≤ _), (by decide : 3 + 0 ≤ _)⟩)
  dsimp only [Pt.U, Pt.locs, Pt.cells, Pt.slots] at X6 l6 y6 z6 st6 hQ6
  subst l6 y6 z6
  obtain ⟨rfl, N6q, eh6⟩ := hQ6
  have N6 := Fr.app N5 N6q
  -- pc 146: com/example/rosehip/rosehip/codec/BerReader$Header.length by the contract of the body that the receiver's class selects, rm11
  obtain ⟨cq7, kq7, q7a, q7b, q7c⟩ := isOf hZ eh6 E4q
  obtain ⟨_, _, ⟨T7, L7, k7, n7⟩, -, X7, ⟨Lc7, hQ7, l7, y7, z7⟩, st7⟩ := X6.virtualBack hx (y := (⟨"com/example/rosehip/rosehip/codec/BerReader$Header", "length", "()J"⟩ : MethodName)) (z := (⟨"com/example/rosehip/rosehip/codec/BerReader$Header", "length", "()J"⟩ : MethodName)) hown (mvT hZ (hw _ (List.mem_of_getElem? (i := 62) rfl))) (mvT hZ (hw _ (List.mem_of_getElem? (i := 63) rfl))) (notFace_of_selects (args := #[]) (mvT hZ (hw _ (List.mem_of_getElem? (i := 65) rfl)))) (mvT hZ (hw _ (List.mem_of_getElem? (i := 65) rfl))) (mvT hZ (hw _ (List.mem_of_getElem? (i := 64) rfl))) (by decide) (backOf (W := 0) (rm11 l Z a0 hw [] b4 ((yy &&& (255 : Int32)).toInt64) T4.heap n0 (Nat.le_trans Z0 KQ4.1) Fl4q) hZ (hw _ (List.mem_of_getElem? (i := 66) rfl)) (hw _ (List.mem_of_getElem? (i := 41) rfl)) (by decide) (by decide)) q7a q7c (g := (mkF m 146 #[.val (.ref a1), .val (.int (0 : Int32)), .val (.ref b4), .unset, .unset] [(.ref b4)])) rfl (by rw [hml]; rfl) (Steps.refl _) (argsL := []) (rest := []) (lenOf pd_6_9 rfl) rfl (by show 2 * 0 + _ ≤ _; exact Nat.le_of_eq rfl) (hb hby d6_146) (fun _ _ => ⟨rfl, eh6, (by decide : 1 + 0 ≤ _), (by decide : 3 + 0 ≤ _)⟩)
  dsimp only [Pt.U, Pt.locs, Pt.cells, Pt.slots] at X7 l7 y7 z7 st7 hQ7
  subst l7 y7 z7
  obtain ⟨rfl, N7q, eh7⟩ := hQ7
  have N7 := Fr.app N6 N7q
  obtain ⟨T8, X8, e8, st8⟩ := getF X7 hx hZ hown (host := "") (Or.inl (hw _ (List.mem_of_getElem? (i := 21) rfl))) Via.refl eh7 (F_limit_a1.keep KQ4 nin0) (g := (mkF m 150 #[.val (.ref a1), .val (.int (0 : Int32)), .val (.ref b4), .unset, .unset] [(.ref a1), (.long ((yy &&& (255 : Int32)).toInt64))])) rfl rfl (hb hby d6_150)
  -- pc 154: com/example/rosehip/rosehip/codec/BerReader$Header.contentStart by the contract of the body that the receiver's class selects, rm12
  obtain ⟨cq9, kq9, q9a, q9b, q9c⟩ := isOf hZ e8 E4q
  obtain ⟨_, _, ⟨T9, L9, k9, n9⟩, -, X9, ⟨Lc9, hQ9, l9, y9, z9⟩, st9⟩ := X8.virtualBack hx (y := (⟨"com/example/rosehip/rosehip/codec/BerReader$Header", "contentStart", "()I"⟩ : MethodName)) (z := (⟨"com/example/rosehip/rosehip/codec/BerReader$Header", "contentStart", "()I"⟩ : MethodName)) hown (mvT hZ (hw _ (List.mem_of_getElem? (i := 68) rfl))) (mvT hZ (hw _ (List.mem_of_getElem? (i := 69) rfl))) (notFace_of_selects (args := #[]) (mvT hZ (hw _ (List.mem_of_getElem? (i := 71) rfl)))) (mvT hZ (hw _ (List.mem_of_getElem? (i := 71) rfl))) (mvT hZ (hw _ (List.mem_of_getElem? (i := 70) rfl))) (by decide) (backOf (W := 3) (rm12 l Z a0 hw [] b4 (((0 : Int32) + (1 : Int32)) + (1 : Int32)) T4.heap n0 (Nat.le_trans Z0 KQ4.1) Fc4q) hZ (hw _ (List.mem_of_getElem? (i := 72) rfl)) (hw _ (List.mem_of_getElem? (i := 41) rfl)) (by decide) (by decide)) q9a q9c (g := (mkF m 154 #[.val (.ref a1), .val (.int (0 : Int32)), .val (.ref b4), .unset, .unset] [(.ref b4), (.int nn), (.long ((yy &&& (255 : Int32)).toInt64))])) rfl (by rw [hml]; rfl) (Steps.refl _) (argsL := []) (rest := [(.int nn), (.long ((yy &&& (255 : Int32)).toInt64))]) (lenOf pd_6_8 rfl) rfl (by show 2 * 0 + _ ≤ _; exact Nat.le_of_eq rfl) (hb hby d6_154) (fun _ _ => ⟨rfl, e8, (by decide : 1 + 0 ≤ _), (by decide : 3 + 0 ≤ _)⟩)
  dsimp only [Pt.U, Pt.locs, Pt.cells, Pt.slots] at X9 l9 y9 z9 st9 hQ9
  subst l9 y9 z9
  obtain ⟨rfl, N9q, eh9⟩ := hQ9
  have N9 := Fr.app N7 N9q
  -- pc 181: com/example/rosehip/rosehip/codec/BerReader$Header.contentStart by the contract of the body that the receiver's class selects, rm12
  obtain ⟨cq10, kq10, q10a, q10b, q10c⟩ := isOf hZ eh9 E4q
  obtain ⟨_, _, ⟨T10, L10, k10, n10⟩, -, X10, ⟨Lc10, hQ10, l10, y10, z10⟩, st10⟩ := X9.virtualBack hx (y := (⟨"com/example/rosehip/rosehip/codec/BerReader$Header", "contentStart", "()I"⟩ : MethodName)) (z := (⟨"com/example/rosehip/rosehip/codec/BerReader$Header", "contentStart", "()I"⟩ : MethodName)) hown (mvT hZ (hw _ (List.mem_of_getElem? (i := 68) rfl))) (mvT hZ (hw _ (List.mem_of_getElem? (i := 69) rfl))) (notFace_of_selects (args := #[]) (mvT hZ (hw _ (List.mem_of_getElem? (i := 71) rfl)))) (mvT hZ (hw _ (List.mem_of_getElem? (i := 71) rfl))) (mvT hZ (hw _ (List.mem_of_getElem? (i := 70) rfl))) (by decide) (backOf (W := 0) (rm12 l Z a0 hw [] b4 (((0 : Int32) + (1 : Int32)) + (1 : Int32)) T4.heap n0 (Nat.le_trans Z0 KQ4.1) Fc4q) hZ (hw _ (List.mem_of_getElem? (i := 72) rfl)) (hw _ (List.mem_of_getElem? (i := 41) rfl)) (by decide) (by decide)) q10a q10c (g := (mkF m 181 #[.val (.ref a1), .val (.int (0 : Int32)), .val (.ref b4), .unset, .unset] [(.ref b4)])) rfl (by rw [hml]; rfl) (Steps.refl _) (argsL := []) (rest := []) (lenOf pd_6_8 rfl) rfl (by show 2 * 0 + _ ≤ _; exact Nat.le_of_eq rfl) (hb hby d6_181) (fun _ _ => ⟨rfl, eh9, (by decide : 1 + 0 ≤ _), (by decide : 3 + 0 ≤ _)⟩)
  dsimp only [Pt.U, Pt.locs, Pt.cells, Pt.slots] at X10 l10 y10 z10 st10 hQ10
  subst l10 y10 z10
  obtain ⟨rfl, N10q, eh10⟩ := hQ10
  have N10 := Fr.app N9 N10q
  -- pc 185: com/example/rosehip/rosehip/codec/BerReader$Header.length by the contract of the body that the receiver's class selects, rm11
  obtain ⟨cq11, kq11, q11a, q11b, q11c⟩ := isOf hZ eh10 E4q
  obtain ⟨_, _, ⟨T11, L11, k11, n11⟩, -, X11, ⟨Lc11, hQ11, l11, y11, z11⟩, st11⟩ := X10.virtualBack hx (y := (⟨"com/example/rosehip/rosehip/codec/BerReader$Header", "length", "()J"⟩ : MethodName)) (z := (⟨"com/example/rosehip/rosehip/codec/BerReader$Header", "length", "()J"⟩ : MethodName)) hown (mvT hZ (hw _ (List.mem_of_getElem? (i := 62) rfl))) (mvT hZ (hw _ (List.mem_of_getElem? (i := 63) rfl))) (notFace_of_selects (args := #[]) (mvT hZ (hw _ (List.mem_of_getElem? (i := 65) rfl)))) (mvT hZ (hw _ (List.mem_of_getElem? (i := 65) rfl))) (mvT hZ (hw _ (List.mem_of_getElem? (i := 64) rfl))) (by decide) (backOf (W := 1) (rm11 l Z a0 hw [] b4 ((yy &&& (255 : Int32)).toInt64) T4.heap n0 (Nat.le_trans Z0 KQ4.1) Fl4q) hZ (hw _ (List.mem_of_getElem? (i := 66) rfl)) (hw _ (List.mem_of_getElem? (i := 41) rfl)) (by decide) (by decide)) q11a q11c (g := (mkF m 185 #[.val (.ref a1), .val (.int (0 : Int32)), .val (.ref b4), .unset, .unset] [(.ref b4), (.int (((0 : Int32) + (1 : Int32)) + (1 : Int32)))])) rfl (by rw [hml]; rfl) (Steps.refl _) (argsL := []) (rest := [(.int (((0 : Int32) + (1 : Int32)) + (1 : Int32)))]) (lenOf pd_6_9 rfl) rfl (by show 2 * 0 + _ ≤ _; exact Nat.le_of_eq rfl) (hb hby d6_185) (fun _ _ => ⟨rfl, eh10, (by decide : 1 + 0 ≤ _), (by decide : 3 + 0 ≤ _)⟩)
  dsimp only [Pt.U, Pt.locs, Pt.cells, Pt.slots] at X11 l11 y11 z11 st11 hQ11
  subst l11 y11 z11
  obtain ⟨rfl, N11q, eh11⟩ := hQ11
  have N11 := Fr.app N10 N11q
  obtain ⟨T12, h12, X12, e12, W12, st12⟩ := putF X11 hx hZ hown (host := "") (Or.inl (hw _ (List.mem_of_getElem? (i := 19) rfl))) Via.refl eh11 (F_position_a1.keep KQ4 nin0) (E_a1.keep KQ4) (Or.inl (hw _ (List.mem_of_getElem? (i := 20) rfl))) (hw _ (List.mem_of_getElem? (i := 6) rfl)) (ty := .int) (by decide) rfl rfl (g := (mkF m 197 #[.val (.ref a1), .val (.int (0 : Int32)), .val (.ref b4), .val (.int ((((0 : Int32) + (1 : Int32)) + (1 : Int32)) + (((yy &&& (255 : Int32)).toInt64).toInt32))), .val (.int ((((0 : Int32) + (1 : Int32)) + (1 : Int32)) + (((yy &&& (255 : Int32)).toInt64).toInt32)))] [(.int ((((0 : Int32) + (1 : Int32)) + (1 : Int32)) + (((yy &&& (255 : Int32)).toInt64).toInt32))), (.ref a1)])) rfl rfl (hb hby d6_197)
  have Fw12 := (F_position_a1.keep KQ4 nin0).same W12      -- the field now holds (.int ((((0 : Int32) + (1 : Int32)) + (1 : Int32)) + (((yy &&& (255 : Int32)).toInt64).toInt32)))
  have K12 : Keep h0 h12 [a1] := K4.wr W12 (Or.inl (List.mem_of_getElem? (i := 0) rfl))
  have N12 := Fr.snoc X12 N11 g_a1
  obtain ⟨T13, h13, X13, e13, E13, A13, D13, -, st13⟩ := newO X12 hx hZ hown (hw _ (List.mem_of_getElem? (i := 73) rfl)) (hw _ (List.mem_of_getElem? (i := 74) rfl)) (hw _ (List.mem_of_getElem? (i := 75) rfl)) e12 (g := (mkF m 200 #[.val (.ref a1), .val (.int (0 : Int32)), .val (.ref b4), .val (.int ((((0 : Int32) + (1 : Int32)) + (1 : Int32)) + (((yy &&& (255 : Int32)).toInt64).toInt32))), .val (.int ((((0 : Int32) + (1 : Int32)) + (1 : Int32)) + (((yy &&& (255 : Int32)).toInt64).toInt32)))] [])) rfl (hb hby d6_200) (by decide) (by decide)
  obtain ⟨b13, g13⟩ : ∃ z, z = h12.size := ⟨_, rfl⟩      -- the fresh object's address
  rw [← g13] at A13 D13 st13      -- A13 : Exa Z h13 b13 "com/example/rosehip/rosehip/codec/BerReader$Element"; E13 : Ext h12 h13 (carries every older fact: .ext E13)
  have F_identifier_b13 : Fld Z h13 b13 "com/example/rosehip/rosehip/codec/BerReader$Element" "identifier" "I" (.int (0 : Int32)) := D13 (Or.inr (hw _ (List.mem_of_getElem? (i := 81) rfl))) (ty := .int) (by decide)
  have F_start_b13 : Fld Z h13 b13 "com/example/rosehip/rosehip/codec/BerReader$Element" "start" "I" (.int (0 : Int32)) := D13 (Or.inr (hw _ (List.mem_of_getElem? (i := 83) rfl))) (ty := .int) (by decide)
  have F_contentStart_b13 : Fld Z h13 b13 "com/example/rosehip/rosehip/codec/BerReader$Element" "contentStart" "I" (.int (0 : Int32)) := D13 (Or.inr (hw _ (List.mem_of_getElem? (i := 85) rfl))) (ty := .int) (by decide)
  have F_contentEnd_b13 : Fld Z h13 b13 "com/example/rosehip/rosehip/codec/BerReader$Element" "contentEnd" "I" (.int (0 : Int32)) := D13 (Or.inr (hw _ (List.mem_of_getElem? (i := 87) rfl))) (ty := .int) (by decide)
  have F_end_b13 : Fld Z h13 b13 "com/example/rosehip/rosehip/codec/BerReader$Element" "end" "I" (.int (0 : Int32)) := D13 (Or.inr (hw _ (List.mem_of_getElem? (i := 89) rfl))) (ty := .int) (by decide)
  have E_b13 := A13
  have g_b13 : n0 ≤ b13 := Nat.le_trans (Nat.le_trans (Nat.le_trans Z0 KQ4.1) (Keep.of_wr W12).1) (Nat.le_of_eq g13.symm)
  have sz_b13 : h0.size ≤ b13 := (Nat.le_trans K12.1 (Nat.le_of_eq g13.symm))
  have K13 : Keep h0 h13 [a1] := K12.ext E13
  -- pc 205: com/example/rosehip/rosehip/codec/BerReader$Header.identifier by the contract of the body that the receiver's class selects, rm10
  obtain ⟨cq14, kq14, q14a, q14b, q14c⟩ := isOf hZ e13 ((E4q.wr W12).ext E13)
  obtain ⟨_, _, ⟨T14, L14, k14, n14⟩, -, X14, ⟨Lc14, hQ14, l14, y14, z14⟩, st14⟩ := X13.virtualBack hx (y := (⟨"com/example/rosehip/rosehip/codec/BerReader$Header", "identifier", "()I"⟩ : MethodName)) (z := (⟨"com/example/rosehip/rosehip/codec/BerReader$Header", "identifier", "()I"⟩ : MethodName)) hown (mvT hZ (hw _ (List.mem_of_getElem? (i := 57) rfl))) (mvT hZ (hw _ (List.mem_of_getElem? (i := 58) rfl))) (notFace_of_selects (args := #[]) (mvT hZ (hw _ (List.mem_of_getElem? (i := 60) rfl)))) (mvT hZ (hw _ (List.mem_of_getElem? (i := 60) rfl))) (mvT hZ (hw _ (List.mem_of_getElem? (i := 59) rfl))) (by decide) (backOf (W := 2) (rm10 l Z a0 hw [] b4 (xx &&& (255 : Int32)) h13 n0 (Nat.le_trans (Nat.le_trans (Nat.le_trans Z0 KQ4.1) (Keep.of_wr W12).1) E13.1) ((Fi4q.other W12 (Or.inl (Ne.symm (Nat.ne_of_lt (Nat.lt_of_lt_of_le F_limit_a1.lt (Nat.le_of_eq g4.symm)))))).ext E13)) hZ (hw _ (List.mem_of_getElem? (i := 61) rfl)) (hw _ (List.mem_of_getElem? (i := 41) rfl)) (by decide) (by decide)) q14a q14c (g := (mkF m 205 #[.val (.ref a1), .val (.int (0 : Int32)), .val (.ref b4), .val (.int ((((0 : Int32) + (1 : Int32)) + (1 : Int32)) + (((yy &&& (255 : Int32)).toInt64).toInt32))), .val (.int ((((0 : Int32) + (1 : Int32)) + (1 : Int32)) + (((yy &&& (255 : Int32)).toInt64).toInt32)))] [(.ref b4), (.ref b13), (.ref b13)])) rfl (by rw [hml]; rfl) (Steps.refl _) (argsL := []) (rest := [(.ref b13), (.ref b13)]) (lenOf pd_6_8 rfl) rfl (by show 2 * 0 + _ ≤ _; exact Nat.le_of_eq rfl) (hb hby d6_205) (fun _ _ => ⟨rfl, e13, (by decide : 2 + 0 ≤ _), (by decide : 8 + 0 ≤ _)⟩)
  dsimp only [Pt.U, Pt.locs, Pt.cells, Pt.slots] at X14 l14 y14 z14 st14 hQ14
  subst l14 y14 z14
  obtain ⟨rfl, N14q, eh14⟩ := hQ14
  have N14 := Fr.app N12 N14q
  -- pc 210: com/example/rosehip/rosehip/codec/BerReader$Header.contentStart by the contract of the body that the receiver's class selects, rm12
  obtain ⟨cq15, kq15, q15a, q15b, q15c⟩ := isOf hZ eh14 ((E4q.wr W12).ext E13)
  obtain ⟨_, _, ⟨T15, L15, k15, n15⟩, -, X15, ⟨Lc15, hQ15, l15, y15, z15⟩, st15⟩ := X14.virtualBack hx (y := (⟨"com/example/rosehip/rosehip/codec/BerReader$Header", "contentStart", "()I"⟩ : MethodName)) (z := (⟨"com/example/rosehip/rosehip/codec/BerReader$Header", "contentStart", "()I"⟩ : MethodName)) hown (mvT hZ (hw _ (List.mem_of_getElem? (i := 68) rfl))) (mvT hZ (hw _ (List.mem_of_getElem? (i := 69) rfl))) (notFace_of_selects (args := #[]) (mvT hZ (hw _ (List.mem_of_getElem? (i := 71) rfl)))) (mvT hZ (hw _ (List.mem_of_getElem? (i := 71) rfl))) (mvT hZ (hw _ (List.mem_of_getElem? (i := 70) rfl))) (by decide) (backOf (W := 4) (rm12 l Z a0 hw [] b4 (((0 : Int32) + (1 : Int32)) + (1 : Int32)) h13 n0 (Nat.le_trans (Nat.le_trans (Nat.le_trans Z0 KQ4.1) (Keep.of_wr W12).1) E13.1) ((Fc4q.other W12 (Or.inl (Ne.symm (Nat.ne_of_lt (Nat.lt_of_lt_of_le F_limit_a1.lt (Nat.le_of_eq g4.symm)))))).ext E13)) hZ (hw _ (List.mem_of_getElem? (i := 72) rfl)) (hw _ (List.mem_of_getElem? (i := 41) rfl)) (by decide) (by decide)) q15a q15c (g := (mkF m 210 #[.val (.ref a1), .val (.int (0 : Int32)), .val (.ref b4), .val (.int ((((0 : Int32) + (1 : Int32)) + (1 : Int32)) + (((yy &&& (255 : Int32)).toInt64).toInt32))), .val (.int ((((0 : Int32) + (1 : Int32)) + (1 : Int32)) + (((yy &&& (255 : Int32)).toInt64).toInt32)))] [(.ref b4), (.int (0 : Int32)), (.int (xx &&& (255 : Int32))), (.ref b13), (.ref b13)])) rfl (by rw [hml]; rfl) (Steps.refl _) (argsL := []) (rest := [(.int (0 : Int32)), (.int (xx &&& (255 : Int32))), (.ref b13), (.ref b13)]) (lenOf pd_6_8 rfl) rfl (by show 2 * 0 + _ ≤ _; exact Nat.le_of_eq rfl) (hb hby d6_210) (fun _ _ => ⟨rfl, eh14, (by decide : 2 + 0 ≤ _), (by decide : 8 + 0 ≤ _)⟩)
  dsimp only [Pt.U, Pt.locs, Pt.cells, Pt.slots] at X15 l15 y15 z15 st15 hQ15
  subst l15 y15 z15
  obtain ⟨rfl, N15q, eh15⟩ := hQ15
  have N15 := Fr.app N14 N15q
  -- pc 216: the constructor of com/example/rosehip/rosehip/codec/BerReader$Element by its contract rm13
  obtain ⟨_, _, ⟨T16, L16, k16, n16⟩, -, X16, ⟨Lc16, hQ16, l16, y16, z16⟩, st16⟩ := X15.specialBack hx (y := (⟨"com/example/rosehip/rosehip/codec/BerReader$Element", "<init>", "(IIIII)V"⟩ : MethodName)) rfl hown (mvT hZ (hw _ (List.mem_of_getElem? (i := 76) rfl))) (mvT hZ (hw _ (List.mem_of_getElem? (i := 77) rfl))) (mvT hZ (hw _ (List.mem_of_getElem? (i := 78) rfl))) (by decide) (backOf (W := 1) (rm13 l Z a0 hw [] b13 (xx &&& (255 : Int32)) (0 : Int32) (((0 : Int32) + (1 : Int32)) + (1 : Int32)) ((((0 : Int32) + (1 : Int32)) + (1 : Int32)) + (((yy &&& (255 : Int32)).toInt64).toInt32)) ((((0 : Int32) + (1 : Int32)) + (1 : Int32)) + (((yy &&& (255 : Int32)).toInt64).toInt32)) (.int (0 : Int32)) (.int (0 : Int32)) (.int (0 : Int32)) (.int (0 : Int32)) (.int (0 : Int32)) h13 n0 (Nat.le_trans (Nat.le_trans (Nat.le_trans Z0 KQ4.1) (Keep.of_wr W12).1) E13.1) E_b13 F_identifier_b13 g_b13 F_start_b13 F_contentStart_b13 F_contentEnd_b13 F_end_b13) hZ (hw _ (List.mem_of_getElem? (i := 78) rfl)) (hw _ (List.mem_of_getElem? (i := 75) rfl)) (by decide) (by decide)) (g := (mkF m 216 #[.val (.ref a1), .val (.int (0 : Int32)), .val (.ref b4), .val (.int ((((0 : Int32) + (1 : Int32)) + (1 : Int32)) + (((yy &&& (255 : Int32)).toInt64).toInt32))), .val (.int ((((0 : Int32) + (1 : Int32)) + (1 : Int32)) + (((yy &&& (255 : Int32)).toInt64).toInt32)))] [(.int ((((0 : Int32) + (1 : Int32)) + (1 : Int32)) + (((yy &&& (255 : Int32)).toInt64).toInt32))), (.int ((((0 : Int32) + (1 : Int32)) + (1 : Int32)) + (((yy &&& (255 : Int32)).toInt64).toInt32))), (.int (((0 : Int32) + (1 : Int32)) + (1 : Int32))), (.int (0 : Int32)), (.int (xx &&& (255 : Int32))), (.ref b13), (.ref b13)])) rfl (by rw [hml]; rfl) (Steps.refl _) (a := b13) (argsL := [(.int (xx &&& (255 : Int32))), (.int (0 : Int32)), (.int (((0 : Int32) + (1 : Int32)) + (1 : Int32))), (.int ((((0 : Int32) + (1 : Int32)) + (1 : Int32)) + (((yy &&& (255 : Int32)).toInt64).toInt32))), (.int ((((0 : Int32) + (1 : Int32)) + (1 : Int32)) + (((yy &&& (255 : Int32)).toInt64).toInt32)))]) (rest := [(.ref b13)]) (lenOf pd_6_10 rfl) rfl (by show 2 * 0 + _ ≤ _; exact Nat.le_of_eq rfl) (hb hby d6_216) (fun _ _ => ⟨rfl, eh15, (by decide : 2 + 0 ≤ _), (by decide : 8 + 0 ≤ _)⟩)
  dsimp only [Pt.U, Pt.locs, Pt.cells, Pt.slots] at X16 l16 y16 z16 st16 hQ16
  subst l16 y16 z16
  obtain ⟨rfl, N16q, KQ16', E16q, -, -, -, -, Fe16q⟩ := hQ16
  have N16 := Fr.app N15 N16q
  have KQ16 : Keep h13 T16.heap [b13] := KQ16'
  have K16 : Keep h0 T16.heap [a1] := K13.trans KQ16 (allS (Or.inr sz_b13) all0)
  obtain ⟨fs, hr, hrun, hended, hW, hsame⟩ := X16.leave (v := some (.ref b13)) (fun h => by rw [Bd.returns] at h; cases h)
  refine ⟨_, _, pre0 _ ?_, hrun, hended, _, _, rfl, ?_, ⟨_, rfl⟩, hW, hsame.mono (by decide) (by decide)⟩
  -- 4. STEPS
  · show Steps p.tables e below (s₁.setTop (mkF m 0 #[.val (.ref a1), .unset, .unset, .unset, .unset] [])) _
    refine XS.aloadN X0.here hx rfl (hb hby d6_0) rfl rfl ?_
    show Steps p.tables e below (s₁.setTop (mkF m 1 #[.val (.ref a1), .unset, .unset, .unset, .unset] [(.ref a1)])) _
    refine st2.trans ?_
    show Steps p.tables e below (T2.setTop (mkF m 4 #[.val (.ref a1), .unset, .unset, .unset, .unset] [(.int (fv5 (0 : Int32) nn))])) _
    refine XS.ifYes X2.here hx rfl (pc0 := 4) (pc' := 27) rfl (hb hby d6_4) rfl ((if0 _ _).trans (feq hc4).2) (by decide) (by decide) ?_
    show Steps p.tables e below (T2.setTop (mkF m 27 #[.val (.ref a1), .unset, .unset, .unset, .unset] [])) _
    refine XS.aloadN X2.here hx rfl (hb hby d6_27) rfl rfl ?_
    show Steps p.tables e below (T2.setTop (mkF m 28 #[.val (.ref a1), .unset, .unset, .unset, .unset] [(.ref a1)])) _
    refine st3 _ ?_
    show Steps p.tables e below (T3.setTop (mkF m 31 #[.val (.ref a1), .unset, .unset, .unset, .unset] [(.int (0 : Int32))])) _
    refine XS.istoreN X3.here hx rfl (hb hby d6_31) rfl (l' := #[.val (.ref a1), .val (.int (0 : Int32)), .unset, .unset, .unset]) rfl ?_
    show Steps p.tables e below (T3.setTop (mkF m 32 #[.val (.ref a1), .val (.int (0 : Int32)), .unset, .unset, .unset] [])) _
    refine XS.aloadN X3.here hx rfl (hb hby d6_32) rfl rfl ?_
    show Steps p.tables e below (T3.setTop (mkF m 33 #[.val (.ref a1), .val (.int (0 : Int32)), .unset, .unset, .unset] [(.ref a1)])) _
    refine XS.iloadN X3.here hx rfl (hb hby d6_33) rfl ?_
    show Steps p.tables e below (T3.setTop (mkF m 34 #[.val (.ref a1), .val (.int (0 : Int32)), .unset, .unset, .unset] [(.int (0 : Int32)), (.ref a1)])) _
    refine st4.trans ?_
    show Steps p.tables e below (T4.setTop (mkF m 37 #[.val (.ref a1), .val (.int (0 : Int32)), .unset, .unset, .unset] [(.ref b4)])) _
    refine XS.astoreN X4.here hx rfl (hb hby d6_37) rfl rfl (l' := #[.val (.ref a1), .val (.int (0 : Int32)), .val (.ref b4), .unset, .unset]) rfl ?_
    show Steps p.tables e below (T4.setTop (mkF m 38 #[.val (.ref a1), .val (.int (0 : Int32)), .val (.ref b4), .unset, .unset] [])) _
    refine XS.aloadN X4.here hx rfl (hb hby d6_38) rfl rfl ?_
    show Steps p.tables e below (T4.setTop (mkF m 39 #[.val (.ref a1), .val (.int (0 : Int32)), .val (.ref b4), .unset, .unset] [(.ref b4)])) _
    refine XS.ifnonnullYes X4.here hx rfl (pc0 := 39) (pc' := 59) rfl (hb hby d6_39) rfl (by decide) (by decide) ?_
    show Steps p.tables e below (T4.setTop (mkF m 59 #[.val (.ref a1), .val (.int (0 : Int32)), .val (.ref b4), .unset, .unset] [])) _
    refine XS.aloadN X4.here hx rfl (hb hby d6_59) rfl rfl ?_
    show Steps p.tables e below (T4.setTop (mkF m 60 #[.val (.ref a1), .val (.int (0 : Int32)), .val (.ref b4), .unset, .unset] [(.ref b4)])) _
    refine st5.trans ?_
    show Steps p.tables e below (T5.setTop (mkF m 63 #[.val (.ref a1), .val (.int (0 : Int32)), .val (.ref b4), .unset, .unset] [(.int (xx &&& (255 : Int32)))])) _
    refine XS.bipush X5.here hx rfl (hb hby d6_63) ?_
    show Steps p.tables e below (T5.setTop (mkF m 65 #[.val (.ref a1), .val (.int (0 : Int32)), .val (.ref b4), .unset, .unset] [(.int (-33 : Int32)), (.int (xx &&& (255 : Int32)))])) _
    refine XS.iand X5.here hx rfl (hb hby d6_65) rfl ?_
    show Steps p.tables e below (T5.setTop (mkF m 66 #[.val (.ref a1), .val (.int (0 : Int32)), .val (.ref b4), .unset, .unset] [(.int ((xx &&& (255 : Int32)) &&& (-33 : Int32)))])) _
    refine XS.ifYes X5.here hx rfl (pc0 := 66) (pc' := 86) rfl (hb hby d6_66) rfl ((if0 _ _).trans (feq hc66).2) (by decide) (by decide) ?_
    show Steps p.tables e below (T5.setTop (mkF m 86 #[.val (.ref a1), .val (.int (0 : Int32)), .val (.ref b4), .unset, .unset] [])) _
    refine XS.aloadN X5.here hx rfl (hb hby d6_86) rfl rfl ?_
    show Steps p.tables e below (T5.setTop (mkF m 87 #[.val (.ref a1), .val (.int (0 : Int32)), .val (.ref b4), .unset, .unset] [(.ref b4)])) _
    refine st6.trans ?_
    show Steps p.tables e below (T6.setTop (mkF m 90 #[.val (.ref a1), .val (.int (0 : Int32)), .val (.ref b4), .unset, .unset] [(.long ((yy &&& (255 : Int32)).toInt64))])) _
    refine X6.ldc2Long hx hown (mvT hZ (hw _ (List.mem_of_getElem? (i := 67) rfl))) (g := (mkF m 90 #[.val (.ref a1), .val (.int (0 : Int32)), .val (.ref b4), .unset, .unset] [(.long ((yy &&& (255 : Int32)).toInt64))])) rfl (hb hby d6_90) _ ?_
    show Steps p.tables e below (T6.setTop (mkF m 93 #[.val (.ref a1), .val (.int (0 : Int32)), .val (.ref b4), .unset, .unset] [(.long (-1 : Int64)), (.long ((yy &&& (255 : Int32)).toInt64))])) _
    refine XS.lcmp X6.here hx rfl (hb hby d6_93) rfl ?_
    show Steps p.tables e below (T6.setTop (mkF m 94 #[.val (.ref a1), .val (.int (0 : Int32)), .val (.ref b4), .unset, .unset] [(.int (lcmpW ((yy &&& (255 : Int32)).toInt64) (-1 : Int64)))])) _
    refine XS.ifYes X6.here hx rfl (pc0 := 94) (pc' := 145) rfl (hb hby d6_94) rfl ((if0 _ _).trans (feq hc94).2) (by decide) (by decide) ?_
    show Steps p.tables e below (T6.setTop (mkF m 145 #[.val (.ref a1), .val (.int (0 : Int32)), .val (.ref b4), .unset, .unset] [])) _
    refine XS.aloadN X6.here hx rfl (hb hby d6_145) rfl rfl ?_
    show Steps p.tables e below (T6.setTop (mkF m 146 #[.val (.ref a1), .val (.int (0 : Int32)), .val (.ref b4), .unset, .unset] [(.ref b4)])) _
    refine st7.trans ?_
    show Steps p.tables e below (T7.setTop (mkF m 149 #[.val (.ref a1), .val (.int (0 : Int32)), .val (.ref b4), .unset, .unset] [(.long ((yy &&& (255 : Int32)).toInt64))])) _
    refine XS.aloadN X7.here hx rfl (hb hby d6_149) rfl rfl ?_
    show Steps p.tables e below (T7.setTop (mkF m 150 #[.val (.ref a1), .val (.int (0 : Int32)), .val (.ref b4), .unset, .unset] [(.ref a1), (.long ((yy &&& (255 : Int32)).toInt64))])) _
    refine st8 _ ?_
    show Steps p.tables e below (T8.setTop (mkF m 153 #[.val (.ref a1), .val (.int (0 : Int32)), .val (.ref b4), .unset, .unset] [(.int nn), (.long ((yy &&& (255 : Int32)).toInt64))])) _
    refine XS.aloadN X8.here hx rfl (hb hby d6_153) rfl rfl ?_
    show Steps p.tables e below (T8.setTop (mkF m 154 #[.val (.ref a1), .val (.int (0 : Int32)), .val (.ref b4), .unset, .unset] [(.ref b4), (.int nn), (.long ((yy &&& (255 : Int32)).toInt64))])) _
    refine st9.trans ?_
    show Steps p.tables e below (T9.setTop (mkF m 157 #[.val (.ref a1), .val (.int (0 : Int32)), .val (.ref b4), .unset, .unset] [(.int (((0 : Int32) + (1 : Int32)) + (1 : Int32))), (.int nn), (.long ((yy &&& (255 : Int32)).toInt64))])) _
    refine XS.isub X9.here hx rfl (hb hby d6_157) rfl ?_
    show Steps p.tables e below (T9.setTop (mkF m 158 #[.val (.ref a1), .val (.int (0 : Int32)), .val (.ref b4), .unset, .unset] [(.int (nn - (((0 : Int32) + (1 : Int32)) + (1 : Int32)))), (.long ((yy &&& (255 : Int32)).toInt64))])) _
    refine XS.i2l X9.here hx rfl (hb hby d6_158) rfl ?_
    show Steps p.tables e below (T9.setTop (mkF m 159 #[.val (.ref a1), .val (.int (0 : Int32)), .val (.ref b4), .unset, .unset] [(.long ((nn - (((0 : Int32) + (1 : Int32)) + (1 : Int32))).toInt64)), (.long ((yy &&& (255 : Int32)).toInt64))])) _
    refine XS.lcmp X9.here hx rfl (hb hby d6_159) rfl ?_
    show Steps p.tables e below (T9.setTop (mkF m 160 #[.val (.ref a1), .val (.int (0 : Int32)), .val (.ref b4), .unset, .unset] [(.int (lcmpW ((yy &&& (255 : Int32)).toInt64) ((nn - (((0 : Int32) + (1 : Int32)) + (1 : Int32))).toInt64)))])) _
    refine XS.ifYes X9.here hx rfl (pc0 := 160) (pc' := 180) rfl (hb hby d6_160) rfl ((if0 _ _).trans (flt hc160).2.2.2) (by decide) (by decide) ?_
    show Steps p.tables e below (T9.setTop (mkF m 180 #[.val (.ref a1), .val (.int (0 : Int32)), .val (.ref b4), .unset, .unset] [])) _
    refine XS.aloadN X9.here hx rfl (hb hby d6_180) rfl rfl ?_
    show Steps p.tables e below (T9.setTop (mkF m 181 #[.val (.ref a1), .val (.int (0 : Int32)), .val (.ref b4), .unset, .unset] [(.ref b4)])) _
    refine st10.trans ?_
    show Steps p.tables e below (T10.setTop (mkF m 184 #[.val (.ref a1), .val (.int (0 : Int32)), .val (.ref b4), .unset, .unset] [(.int (((0 : Int32) + (1 : Int32)) + (1 : Int32)))])) _
    refine XS.aloadN X10.here hx rfl (hb hby d6_184) rfl rfl ?_
    show Steps p.tables e below (T10.setTop (mkF m 185 #[.val (.ref a1), .val (.int (0 : Int32)), .val (.ref b4), .unset, .unset] [(.ref b4), (.int (((0 : Int32) + (1 : Int32)) + (1 : Int32)))])) _
    refine st11.trans ?_
    show Steps p.tables e below (T11.setTop (mkF m 188 #[.val (.ref a1), .val (.int (0 : Int32)), .val (.ref b4), .unset, .unset] [(.long ((yy &&& (255 : Int32)).toInt64)), (.int (((0 : Int32) + (1 : Int32)) + (1 : Int32)))])) _
    refine XS.l2i X11.here hx rfl (hb hby d6_188) rfl ?_
    show Steps p.tables e below (T11.setTop (mkF m 189 #[.val (.ref a1), .val (.int (0 : Int32)), .val (.ref b4), .unset, .unset] [(.int (((yy &&& (255 : Int32)).toInt64).toInt32)), (.int (((0 : Int32) + (1 : Int32)) + (1 : Int32)))])) _
    refine XS.iadd X11.here hx rfl (hb hby d6_189) rfl ?_
    show Steps p.tables e below (T11.setTop (mkF m 190 #[.val (.ref a1), .val (.int (0 : Int32)), .val (.ref b4), .unset, .unset] [(.int ((((0 : Int32) + (1 : Int32)) + (1 : Int32)) + (((yy &&& (255 : Int32)).toInt64).toInt32)))])) _
    refine XS.istoreN X11.here hx rfl (hb hby d6_190) rfl (l' := #[.val (.ref a1), .val (.int (0 : Int32)), .val (.ref b4), .val (.int ((((0 : Int32) + (1 : Int32)) + (1 : Int32)) + (((yy &&& (255 : Int32)).toInt64).toInt32))), .unset]) rfl ?_
    show Steps p.tables e below (T11.setTop (mkF m 191 #[.val (.ref a1), .val (.int (0 : Int32)), .val (.ref b4), .val (.int ((((0 : Int32) + (1 : Int32)) + (1 : Int32)) + (((yy &&& (255 : Int32)).toInt64).toInt32))), .unset] [])) _
    refine XS.iloadN X11.here hx rfl (hb hby d6_191) rfl ?_
    show Steps p.tables e below (T11.setTop (mkF m 192 #[.val (.ref a1), .val (.int (0 : Int32)), .val (.ref b4), .val (.int ((((0 : Int32) + (1 : Int32)) + (1 : Int32)) + (((yy &&& (255 : Int32)).toInt64).toInt32))), .unset] [(.int ((((0 : Int32) + (1 : Int32)) + (1 : Int32)) + (((yy &&& (255 : Int32)).toInt64).toInt32)))])) _
    refine XS.istore X11.here hx rfl (hb hby d6_192) rfl (l' := #[.val (.ref a1), .val (.int (0 : Int32)), .val (.ref b4), .val (.int ((((0 : Int32) + (1 : Int32)) + (1 : Int32)) + (((yy &&& (255 : Int32)).toInt64).toInt32))), .val (.int ((((0 : Int32) + (1 : Int32)) + (1 : Int32)) + (((yy &&& (255 : Int32)).toInt64).toInt32)))]) rfl ?_
    show Steps p.tables e below (T11.setTop (mkF m 194 #[.val (.ref a1), .val (.int (0 : Int32)), .val (.ref b4), .val (.int ((((0 : Int32) + (1 : Int32)) + (1 : Int32)) + (((yy &&& (255 : Int32)).toInt64).toInt32))), .val (.int ((((0 : Int32) + (1 : Int32)) + (1 : Int32)) + (((yy &&& (255 : Int32)).toInt64).toInt32)))] [])) _
    refine XS.aloadN X11.here hx rfl (hb hby d6_194) rfl rfl ?_
    show Steps p.tables e below (T11.setTop (mkF m 195 #[.val (.ref a1), .val (.int (0 : Int32)), .val (.ref b4), .val (.int ((((0 : Int32) + (1 : Int32)) + (1 : Int32)) + (((yy &&& (255 : Int32)).toInt64).toInt32))), .val (.int ((((0 : Int32) + (1 : Int32)) + (1 : Int32)) + (((yy &&& (255 : Int32)).toInt64).toInt32)))] [(.ref a1)])) _
    refine XS.iload X11.here hx rfl (hb hby d6_195) rfl ?_
    show Steps p.tables e below (T11.setTop (mkF m 197 #[.val (.ref a1), .val (.int (0 : Int32)), .val (.ref b4), .val (.int ((((0 : Int32) + (1 : Int32)) + (1 : Int32)) + (((yy &&& (255 : Int32)).toInt64).toInt32))), .val (.int ((((0 : Int32) + (1 : Int32)) + (1 : Int32)) + (((yy &&& (255 : Int32)).toInt64).toInt32)))] [(.int ((((0 : Int32) + (1 : Int32)) + (1 : Int32)) + (((yy &&& (255 : Int32)).toInt64).toInt32))), (.ref a1)])) _
    refine st12 _ ?_
    show Steps p.tables e below (T12.setTop (mkF m 200 #[.val (.ref a1), .val (.int (0 : Int32)), .val (.ref b4), .val (.int ((((0 : Int32) + (1 : Int32)) + (1 : Int32)) + (((yy &&& (255 : Int32)).toInt64).toInt32))), .val (.int ((((0 : Int32) + (1 : Int32)) + (1 : Int32)) + (((yy &&& (255 : Int32)).toInt64).toInt32)))] [])) _
    refine st13 _ ?_
    show Steps p.tables e below (T13.setTop (mkF m 203 #[.val (.ref a1), .val (.int (0 : Int32)), .val (.ref b4), .val (.int ((((0 : Int32) + (1 : Int32)) + (1 : Int32)) + (((yy &&& (255 : Int32)).toInt64).toInt32))), .val (.int ((((0 : Int32) + (1 : Int32)) + (1 : Int32)) + (((yy &&& (255 : Int32)).toInt64).toInt32)))] [(.ref b13)])) _
    refine XS.dup X13.here hx rfl (hb hby d6_203) rfl rfl ?_
    show Steps p.tables e below (T13.setTop (mkF m 204 #[.val (.ref a1), .val (.int (0 : Int32)), .val (.ref b4), .val (.int ((((0 : Int32) + (1 : Int32)) + (1 : Int32)) + (((yy &&& (255 : Int32)).toInt64).toInt32))), .val (.int ((((0 : Int32) + (1 : Int32)) + (1 : Int32)) + (((yy &&& (255 : Int32)).toInt64).toInt32)))] [(.ref b13), (.ref b13)])) _
    refine XS.aloadN X13.here hx rfl (hb hby d6_204) rfl rfl ?_
    show Steps p.tables e below (T13.setTop (mkF m 205 #[.val (.ref a1), .val (.int (0 : Int32)), .val (.ref b4), .val (.int ((((0 : Int32) + (1 : Int32)) + (1 : Int32)) + (((yy &&& (255 : Int32)).toInt64).toInt32))), .val (.int ((((0 : Int32) + (1 : Int32)) + (1 : Int32)) + (((yy &&& (255 : Int32)).toInt64).toInt32)))] [(.ref b4), (.ref b13), (.ref b13)])) _
    refine st14.trans ?_
    show Steps p.tables e below (T14.setTop (mkF m 208 #[.val (.ref a1), .val (.int (0 : Int32)), .val (.ref b4), .val (.int ((((0 : Int32) + (1 : Int32)) + (1 : Int32)) + (((yy &&& (255 : Int32)).toInt64).toInt32))), .val (.int ((((0 : Int32) + (1 : Int32)) + (1 : Int32)) + (((yy &&& (255 : Int32)).toInt64).toInt32)))] [(.int (xx &&& (255 : Int32))), (.ref b13), (.ref b13)])) _
    refine XS.iloadN X14.here hx rfl (hb hby d6_208) rfl ?_
    show Steps p.tables e below (T14.setTop (mkF m 209 #[.val (.ref a1), .val (.int (0 : Int32)), .val (.ref b4), .val (.int ((((0 : Int32) + (1 : Int32)) + (1 : Int32)) + (((yy &&& (255 : Int32)).toInt64).toInt32))), .val (.int ((((0 : Int32) + (1 : Int32)) + (1 : Int32)) + (((yy &&& (255 : Int32)).toInt64).toInt32)))] [(.int (0 : Int32)), (.int (xx &&& (255 : Int32))), (.ref b13), (.ref b13)])) _
    refine XS.aloadN X14.here hx rfl (hb hby d6_209) rfl rfl ?_
    show Steps p.tables e below (T14.setTop (mkF m 210 #[.val (.ref a1), .val (.int (0 : Int32)), .val (.ref b4), .val (.int ((((0 : Int32) + (1 : Int32)) + (1 : Int32)) + (((yy &&& (255 : Int32)).toInt64).toInt32))), .val (.int ((((0 : Int32) + (1 : Int32)) + (1 : Int32)) + (((yy &&& (255 : Int32)).toInt64).toInt32)))] [(.ref b4), (.int (0 : Int32)), (.int (xx &&& (255 : Int32))), (.ref b13), (.ref b13)])) _
    refine st15.trans ?_
    show Steps p.tables e below (T15.setTop (mkF m 213 #[.val (.ref a1), .val (.int (0 : Int32)), .val (.ref b4), .val (.int ((((0 : Int32) + (1 : Int32)) + (1 : Int32)) + (((yy &&& (255 : Int32)).toInt64).toInt32))), .val (.int ((((0 : Int32) + (1 : Int32)) + (1 : Int32)) + (((yy &&& (255 : Int32)).toInt64).toInt32)))] [(.int (((0 : Int32) + (1 : Int32)) + (1 : Int32))), (.int (0 : Int32)), (.int (xx &&& (255 : Int32))), (.ref b13), (.ref b13)])) _
    refine XS.iloadN X15.here hx rfl (hb hby d6_213) rfl ?_
    show Steps p.tables e below (T15.setTop (mkF m 214 #[.val (.ref a1), .val (.int (0 : Int32)), .val (.ref b4), .val (.int ((((0 : Int32) + (1 : Int32)) + (1 : Int32)) + (((yy &&& (255 : Int32)).toInt64).toInt32))), .val (.int ((((0 : Int32) + (1 : Int32)) + (1 : Int32)) + (((yy &&& (255 : Int32)).toInt64).toInt32)))] [(.int ((((0 : Int32) + (1 : Int32)) + (1 : Int32)) + (((yy &&& (255 : Int32)).toInt64).toInt32))), (.int (((0 : Int32) + (1 : Int32)) + (1 : Int32))), (.int (0 : Int32)), (.int (xx &&& (255 : Int32))), (.ref b13), (.ref b13)])) _
    refine XS.iload X15.here hx rfl (hb hby d6_214) rfl ?_
    show Steps p.tables e below (T15.setTop (mkF m 216 #[.val (.ref a1), .val (.int (0 : Int32)), .val (.ref b4), .val (.int ((((0 : Int32) + (1 : Int32)) + (1 : Int32)) + (((yy &&& (255 : Int32)).toInt64).toInt32))), .val (.int ((((0 : Int32) + (1 : Int32)) + (1 : Int32)) + (((yy &&& (255 : Int32)).toInt64).toInt32)))] [(.int ((((0 : Int32) + (1 : Int32)) + (1 : Int32)) + (((yy &&& (255 : Int32)).toInt64).toInt32))), (.int ((((0 : Int32) + (1 : Int32)) + (1 : Int32)) + (((yy &&& (255 : Int32)).toInt64).toInt32))), (.int (((0 : Int32) + (1 : Int32)) + (1 : Int32))), (.int (0 : Int32)), (.int (xx &&& (255 : Int32))), (.ref b13), (.ref b13)])) _
    refine st16.trans ?_
    show Steps p.tables e below (T16.setTop (mkF m 219 #[.val (.ref a1), .val (.int (0 : Int32)), .val (.ref b4), .val (.int ((((0 : Int32) + (1 : Int32)) + (1 : Int32)) + (((yy &&& (255 : Int32)).toInt64).toInt32))), .val (.int ((((0 : Int32) + (1 : Int32)) + (1 : Int32)) + (((yy &&& (255 : Int32)).toInt64).toInt32)))] [(.ref b13)])) _
    jvm_step X16.here [X16.here.top, hx, (hb hby d6_219), X16.method', Bd.returns, Value.isRef, FieldType.isReference]
    first | (intro acts; rw [hr _ acts rfl rfl rfl]) | rw [hr _ _ rfl rfl rfl]
    exact Steps.refl _
  · show QRd Z a1 nn (own_en yy) h0 n0 _ T16.heap _
    exact ⟨b13, rfl, N16, K16, E16q, Fe16q, ((((E_a1.keep KQ4).wr W12).ext E13).keep KQ16), ((Fw12.ext E13).keep KQ16 (ninS (Nat.ne_of_lt (Nat.lt_of_lt_of_le Fw12.lt (Nat.le_of_eq g13.symm))) nin0)), ((((F_limit_a1.keep KQ4 nin0).other W12 (Or.inr (slot_ne (Or.inr (hw _ (List.mem_of_getElem? (i := 22) rfl))) (Or.inl (hw _ (List.mem_of_getElem? (i := 20) rfl))) (by decide) (t := .int) (t' := .int) (by decide) (by decide)))).ext E13).keep KQ16 (ninS (Nat.ne_of_lt (Nat.lt_of_lt_of_le Fw12.lt (Nat.le_of_eq g13.symm))) nin0))⟩
def QF (n0 : Nat) (v : Option Value) (h : Heap) (L : List Loc) : Prop := v = some (.int (1 : Int32)) ∧ Fr n0 L ∧ True
theorem pn_0 : plainName "com/example/rosehip/rosehip/codec/BerReaderHasMorePinLaw" = true := by first | (simp [plainName, overriddenIn]; done) | decide +kernel
theorem pd_0_0 : parseMethodDescriptor "([BIJ)V" = some ⟨[(.array .byte), .int, .long], none⟩ := by decide +kernel
theorem pd_0_1 : parseMethodDescriptor "([B)V" = some ⟨[(.array .byte)], none⟩ := by decide +kernel
theorem pd_0_4 : parseMethodDescriptor "()Z" = some ⟨[], some .boolean⟩ := by decide +kernel
theorem ef_0 (m : MethodId) (x0 : Int32) (x1 : Int32) (x2 : Int32) (x3 : Int64) : entryFrame m #[(.int x0), (.int x1), (.int x2), (.long x3)] maxLocals = mkF m 0 #[.val (.int x0), .val (.int x1), .val (.int x2), .val (.long x3), .second, .unset, .unset, .unset, .unset, .unset, .unset, .unset, .unset] [] := by first | (simp [entryFrame, mkF, argsToLocals, Value.category, maxLocals]; done) | rfl
set_option maxRecDepth 65536 in
set_option maxHeartbeats 40000000 in
theorem rm0_tttf (l : Launch) (Z : State) (a0 : Array Value) (hw : ∀ d ∈ tables_1, d.before a0 Z = true) (ws : List Jvm.Cond) (p1 : Int32) (p2 : Int32) (p3 : Int32) (q4 : Int64) (h0 : Heap) (n0 : Nat) (Z0 : n0 ≤ h0.size) (hng : ¬ (p1 &&& (7 : Int32)) < 0) (hcap : (p1 &&& (7 : Int32)).toNatClampNeg ≤ 7) (hc84 : ¬ ((0 : Int32) < (p1 &&& (7 : Int32)))) (hc92 : (fv5 (0 : Int32) (p1 &&& (7 : Int32))) = (0 : Int32)) (hc112 : (p1 &&& (7 : Int32)) < (2 : Int32)) :
    MetFree l x (head1 (Jvm.Cond.code x code maxLocals ret :: ws) room_1) (fun a U => a = #[(.int p1), (.int p2), (.int p3), (.long q4)] ∧ Z.Warmed39 U.vm ∧ U.heap = h0) (fun _ _ _ _ _ => True) (fun _ U o U' => ∃ v L, o = .returned v ∧ QF n0 v U'.heap L ∧ FrameEnd U o U' L room_1.cells room_1.slots) := by
  refine MetFree.of_bodySF (plainFor_of_name pn_0) hisR ?_
  intro p e s m args below meth c s₁ Bd hml0 hP hK
  obtain ⟨rfl, hZ, hh⟩ := hP
  have hx := Bd.exec
  have hby := Bd.bytes
  have hml : c.maxLocals = 13 := hml0
  have hown : s.vm.findClass "com/example/rosehip/rosehip/codec/BerReaderHasMorePinLaw" = some m.cls := findClass_of_methodNamed Bd.named
  have hnm := (name_of_methodNamed Bd.named Bd.method).1
  have X0 : Stand p l e room_1 s m #[(.int p1), (.int p2), (.int p3), (.long q4)] below meth c s₁ [] 0 0 := Stand.of_body Bd
  have e0 : s₁.heap = h0 := by rw [← hh, Bd.state]; rfl
  have N0 := Fr.nil n0
  have pre0 : ∀ t, Steps p.tables e below (s₁.setTop (mkF m 0 #[.val (.int p1), .val (.int p2), .val (.int p3), .val (.long q4), .second, .unset, .unset, .unset, .unset, .unset, .unset, .unset, .unset] [])) t → Steps p.tables e below (s₁.setTop (entryFrame m #[(.int p1), (.int p2), (.int p3), (.long q4)] maxLocals)) t := fun t k => castTop (ef_0 m p1 p2 p3 q4) k
  -- 3. LAWS
  obtain ⟨T5, h5, k5, X5, e5, E5, A5, st5⟩ := newP X0 hx hZ (hw _ (List.mem_of_getElem? (i := 0) rfl)) e0 (g := (mkF m 8 #[.val (.int p1), .val (.int p2), .val (.int p3), .val (.long q4), .second, .val (.int (p1 &&& (7 : Int32))), .unset, .unset, .unset, .unset, .unset, .unset, .unset] [(.int (p1 &&& (7 : Int32)))])) rfl (hb hby at_8) rfl hng (cap := 7) hcap (by decide) (by decide) (by decide)
  obtain ⟨b5, g5⟩ : ∃ z, z = h0.size := ⟨_, rfl⟩      -- the fresh array's address
  rw [← g5] at A5 st5
  have V_b5 := Arv.new A5 hng      -- Arv Z h5 b5 k5 .byte (p1 &&& (7 : Int32)) [] (its first value); a place must be in the list before it's written: Arv.pad with pad_rep
  have g_b5 : n0 ≤ b5 := Nat.le_trans Z0 (Nat.le_of_eq g5.symm)
  have sz_b5 : h0.size ≤ b5 := (Nat.le_trans (Keep.refl h0 []).1 (Nat.le_of_eq g5.symm))
  have K5 : Keep h0 h5 [] := (Keep.refl h0 []).ext E5
  -- newarray of at most cap (TODO_cap: the greatest length): this body's room: slots + cap; its caller's figures: cells + 1, slots + cap
  -- pc 16: com/example/rosehip/rosehip/codec/BerReaderHasMorePinLaw.put by its contract rm1
  obtain ⟨_, _, ⟨T6, L6, k6, n6⟩, -, X6, ⟨Lc6, hQ6, l6, y6, z6⟩, st6⟩ := Jvm.LawKit.callS X5 hx (y := (⟨"com/example/rosehip/rosehip/codec/BerReaderHasMorePinLaw", "put", "([BIJ)V"⟩ : MethodName)) hown (mvT hZ (hw _ (List.mem_of_getElem? (i := 1) rfl))) (mvT hZ (hw _ (List.mem_of_getElem? (i := 2) rfl))) (mvT hZ (hw _ (List.mem_of_getElem? (i := 3) rfl))) (mvT hZ (hw _ (List.mem_of_getElem? (i := 4) rfl))) (by decide) (backOf (W := 0) (rm1 l Z a0 hw [] b5 (0 : Int32) q4 (p1 &&& (7 : Int32)) h5 n0 (Nat.le_trans Z0 E5.1) (By.of V_b5) g_b5 (by decide)) hZ (hw _ (List.mem_of_getElem? (i := 4) rfl)) (hw _ (List.mem_of_getElem? (i := 3) rfl)) (by decide) (by decide)) (g := (mkF m 16 #[.val (.int p1), .val (.int p2), .val (.int p3), .val (.long q4), .second, .val (.int (p1 &&& (7 : Int32))), .val (.ref b5), .unset, .unset, .unset, .unset, .unset, .unset] [(.long q4), (.int (0 : Int32)), (.ref b5)])) rfl (by rw [hml]; rfl) (argsL := [(.ref b5), (.int (0 : Int32)), (.long q4)]) (rest := []) (lenOf pd_0_0 rfl) rfl (by show 2 * 0 + _ ≤ _; exact Nat.le_of_eq rfl) (hb hby at_16) (fun _ _ => ⟨rfl, e5, (by decide : 1 + 0 ≤ _), (by decide : 7 + 0 ≤ _)⟩)
  dsimp only [Pt.U, Pt.locs, Pt.cells, Pt.slots] at X6 l6 y6 z6 st6 hQ6
  subst l6 y6 z6
  obtain ⟨rfl, N6q, KQ6', B6q⟩ := hQ6
  have N6 := Fr.app N0 N6q
  have KQ6 : Keep h5 T6.heap [b5] := KQ6'
  have K6 : Keep h0 T6.heap [] := K5.trans KQ6 (allS (Or.inr sz_b5) all0)
  -- pc 23: com/example/rosehip/rosehip/codec/BerReaderHasMorePinLaw.put by its contract rm1
  obtain ⟨_, _, ⟨T7, L7, k7, n7⟩, -, X7, ⟨Lc7, hQ7, l7, y7, z7⟩, st7⟩ := Jvm.LawKit.callS X6 hx (y := (⟨"com/example/rosehip/rosehip/codec/BerReaderHasMorePinLaw", "put", "([BIJ)V"⟩ : MethodName)) hown (mvT hZ (hw _ (List.mem_of_getElem? (i := 1) rfl))) (mvT hZ (hw _ (List.mem_of_getElem? (i := 2) rfl))) (mvT hZ (hw _ (List.mem_of_getElem? (i := 3) rfl))) (mvT hZ (hw _ (List.mem_of_getElem? (i := 4) rfl))) (by decide) (backOf (W := 0) (rm1 l Z a0 hw [] b5 (1 : Int32) q4 (p1 &&& (7 : Int32)) T6.heap n0 (Nat.le_trans (Nat.le_trans Z0 E5.1) KQ6.1) B6q g_b5 (by decide)) hZ (hw _ (List.mem_of_getElem? (i := 4) rfl)) (hw _ (List.mem_of_getElem? (i := 3) rfl)) (by decide) (by decide)) (g := (mkF m 23 #[.val (.int p1), .val (.int p2), .val (.int p3), .val (.long q4), .second, .val (.int (p1 &&& (7 : Int32))), .val (.ref b5), .unset, .unset, .unset, .unset, .unset, .unset] [(.long q4), (.int (1 : Int32)), (.ref b5)])) rfl (by rw [hml]; rfl) (argsL := [(.ref b5), (.int (1 : Int32)), (.long q4)]) (rest := []) (lenOf pd_0_0 rfl) rfl (by show 2 * 0 + _ ≤ _; exact Nat.le_of_eq rfl) (hb hby at_23) (fun _ _ => ⟨rfl, rfl, (by decide : 1 + 0 ≤ _), (by decide : 7 + 0 ≤ _)⟩)
  dsimp only [Pt.U, Pt.locs, Pt.cells, Pt.slots] at X7 l7 y7 z7 st7 hQ7
  subst l7 y7 z7
  obtain ⟨rfl, N7q, KQ7', B7q⟩ := hQ7
  have N7 := Fr.app N6 N7q
  have KQ7 : Keep T6.heap T7.heap [b5] := KQ7'
  have K7 : Keep h0 T7.heap [] := K6.trans KQ7 (allS (Or.inr sz_b5) all0)
  -- pc 30: com/example/rosehip/rosehip/codec/BerReaderHasMorePinLaw.put by its contract rm1
  obtain ⟨_, _, ⟨T8, L8, k8, n8⟩, -, X8, ⟨Lc8, hQ8, l8, y8, z8⟩, st8⟩ := Jvm.LawKit.callS X7 hx (y := (⟨"com/example/rosehip/rosehip/codec/BerReaderHasMorePinLaw", "put", "([BIJ)V"⟩ : MethodName)) hown (mvT hZ (hw _ (List.mem_of_getElem? (i := 1) rfl))) (mvT hZ (hw _ (List.mem_of_getElem? (i := 2) rfl))) (mvT hZ (hw _ (List.mem_of_getElem? (i := 3) rfl))) (mvT hZ (hw _ (List.mem_of_getElem? (i := 4) rfl))) (by decide) (backOf (W := 0) (rm1 l Z a0 hw [] b5 (2 : Int32) q4 (p1 &&& (7 : Int32)) T7.heap n0 (Nat.le_trans (Nat.le_trans (Nat.le_trans Z0 E5.1) KQ6.1) KQ7.1) B7q g_b5 (by decide)) hZ (hw _ (List.mem_of_getElem? (i := 4) rfl)) (hw _ (List.mem_of_getElem? (i := 3) rfl)) (by decide) (by decide)) (g := (mkF m 30 #[.val (.int p1), .val (.int p2), .val (.int p3), .val (.long q4), .second, .val (.int (p1 &&& (7 : Int32))), .val (.ref b5), .unset, .unset, .unset, .unset, .unset, .unset] [(.long q4), (.int (2 : Int32)), (.ref b5)])) rfl (by rw [hml]; rfl) (argsL := [(.ref b5), (.int (2 : Int32)), (.long q4)]) (rest := []) (lenOf pd_0_0 rfl) rfl (by show 2 * 0 + _ ≤ _; exact Nat.le_of_eq rfl) (hb hby at_30) (fun _ _ => ⟨rfl, rfl, (by decide : 1 + 0 ≤ _), (by decide : 7 + 0 ≤ _)⟩)
  dsimp only [Pt.U, Pt.locs, Pt.cells, Pt.slots] at X8 l8 y8 z8 st8 hQ8
  subst l8 y8 z8
  obtain ⟨rfl, N8q, KQ8', B8q⟩ := hQ8
  have N8 := Fr.app N7 N8q
  have KQ8 : Keep T7.heap T8.heap [b5] := KQ8'
  have K8 : Keep h0 T8.heap [] := K7.trans KQ8 (allS (Or.inr sz_b5) all0)
  -- pc 37: com/example/rosehip/rosehip/codec/BerReaderHasMorePinLaw.put by its contract rm1
  obtain ⟨_, _, ⟨T9, L9, k9, n9⟩, -, X9, ⟨Lc9, hQ9, l9, y9, z9⟩, st9⟩ := Jvm.LawKit.callS X8 hx (y := (⟨"com/example/rosehip/rosehip/codec/BerReaderHasMorePinLaw", "put", "([BIJ)V"⟩ : MethodName)) hown (mvT hZ (hw _ (List.mem_of_getElem? (i := 1) rfl))) (mvT hZ (hw _ (List.mem_of_getElem? (i := 2) rfl))) (mvT hZ (hw _ (List.mem_of_getElem? (i := 3) rfl))) (mvT hZ (hw _ (List.mem_of_getElem? (i := 4) rfl))) (by decide) (backOf (W := 0) (rm1 l Z a0 hw [] b5 (3 : Int32) q4 (p1 &&& (7 : Int32)) T8.heap n0 (Nat.le_trans (Nat.le_trans (Nat.le_trans (Nat.le_trans Z0 E5.1) KQ6.1) KQ7.1) KQ8.1) B8q g_b5 (by decide)) hZ (hw _ (List.mem_of_getElem? (i := 4) rfl)) (hw _ (List.mem_of_getElem? (i := 3) rfl)) (by decide) (by decide)) (g := (mkF m 37 #[.val (.int p1), .val (.int p2), .val (.int p3), .val (.long q4), .second, .val (.int (p1 &&& (7 : Int32))), .val (.ref b5), .unset, .unset, .unset, .unset, .unset, .unset] [(.long q4), (.int (3 : Int32)), (.ref b5)])) rfl (by rw [hml]; rfl) (argsL := [(.ref b5), (.int (3 : Int32)), (.long q4)]) (rest := []) (lenOf pd_0_0 rfl) rfl (by show 2 * 0 + _ ≤ _; exact Nat.le_of_eq rfl) (hb hby at_37) (fun _ _ => ⟨rfl, rfl, (by decide : 1 + 0 ≤ _), (by decide : 7 + 0 ≤ _)⟩)
  dsimp only [Pt.U, Pt.locs, Pt.cells, Pt.slots] at X9 l9 y9 z9 st9 hQ9
  subst l9 y9 z9
  obtain ⟨rfl, N9q, KQ9', B9q⟩ := hQ9
  have N9 := Fr.app N8 N9q
  have KQ9 : Keep T8.heap T9.heap [b5] := KQ9'
  have K9 : Keep h0 T9.heap [] := K8.trans KQ9 (allS (Or.inr sz_b5) all0)
  -- pc 44: com/example/rosehip/rosehip/codec/BerReaderHasMorePinLaw.put by its contract rm1
  obtain ⟨_, _, ⟨T10, L10, k10, n10⟩, -, X10, ⟨Lc10, hQ10, l10, y10, z10⟩, st10⟩ := Jvm.LawKit.callS X9 hx (y := (⟨"com/example/rosehip/rosehip/codec/BerReaderHasMorePinLaw", "put", "([BIJ)V"⟩ : MethodName)) hown (mvT hZ (hw _ (List.mem_of_getElem? (i := 1) rfl))) (mvT hZ (hw _ (List.mem_of_getElem? (i := 2) rfl))) (mvT hZ (hw _ (List.mem_of_getElem? (i := 3) rfl))) (mvT hZ (hw _ (List.mem_of_getElem? (i := 4) rfl))) (by decide) (backOf (W := 0) (rm1 l Z a0 hw [] b5 (4 : Int32) q4 (p1 &&& (7 : Int32)) T9.heap n0 (Nat.le_trans (Nat.le_trans (Nat.le_trans (Nat.le_trans (Nat.le_trans Z0 E5.1) KQ6.1) KQ7.1) KQ8.1) KQ9.1) B9q g_b5 (by decide)) hZ (hw _ (List.mem_of_getElem? (i := 4) rfl)) (hw _ (List.mem_of_getElem? (i := 3) rfl)) (by decide) (by decide)) (g := (mkF m 44 #[.val (.int p1), .val (.int p2), .val (.int p3), .val (.long q4), .second, .val (.int (p1 &&& (7 : Int32))), .val (.ref b5), .unset, .unset, .unset, .unset, .unset, .unset] [(.long q4), (.int (4 : Int32)), (.ref b5)])) rfl (by rw [hml]; rfl) (argsL := [(.ref b5), (.int (4 : Int32)), (.long q4)]) (rest := []) (lenOf pd_0_0 rfl) rfl (by show 2 * 0 + _ ≤ _; exact Nat.le_of_eq rfl) (hb hby at_44) (fun _ _ => ⟨rfl, rfl, (by decide : 1 + 0 ≤ _), (by decide : 7 + 0 ≤ _)⟩)
  dsimp only [Pt.U, Pt.locs, Pt.cells, Pt.slots] at X10 l10 y10 z10 st10 hQ10
  subst l10 y10 z10
  obtain ⟨rfl, N10q, KQ10', B10q⟩ := hQ10
  have N10 := Fr.app N9 N10q
  have KQ10 : Keep T9.heap T10.heap [b5] := KQ10'
  have K10 : Keep h0 T10.heap [] := K9.trans KQ10 (allS (Or.inr sz_b5) all0)
  -- pc 51: com/example/rosehip/rosehip/codec/BerReaderHasMorePinLaw.put by its contract rm1
  obtain ⟨_, _, ⟨T11, L11, k11, n11⟩, -, X11, ⟨Lc11, hQ11, l11, y11, z11⟩, st11⟩ := Jvm.LawKit.callS X10 hx (y := (⟨"com/example/rosehip/rosehip/codec/BerReaderHasMorePinLaw", "put", "([BIJ)V"⟩ : MethodName)) hown (mvT hZ (hw _ (List.mem_of_getElem? (i := 1) rfl))) (mvT hZ (hw _ (List.mem_of_getElem? (i := 2) rfl))) (mvT hZ (hw _ (List.mem_of_getElem? (i := 3) rfl))) (mvT hZ (hw _ (List.mem_of_getElem? (i := 4) rfl))) (by decide) (backOf (W := 0) (rm1 l Z a0 hw [] b5 (5 : Int32) q4 (p1 &&& (7 : Int32)) T10.heap n0 (Nat.le_trans (Nat.le_trans (Nat.le_trans (Nat.le_trans (Nat.le_trans (Nat.le_trans Z0 E5.1) KQ6.1) KQ7.1) KQ8.1) KQ9.1) KQ10.1) B10q g_b5 (by decide)) hZ (hw _ (List.mem_of_getElem? (i := 4) rfl)) (hw _ (List.mem_of_getElem? (i := 3) rfl)) (by decide) (by decide)) (g := (mkF m 51 #[.val (.int p1), .val (.int p2), .val (.int p3), .val (.long q4), .second, .val (.int (p1 &&& (7 : Int32))), .val (.ref b5), .unset, .unset, .unset, .unset, .unset, .unset] [(.long q4), (.int (5 : Int32)), (.ref b5)])) rfl (by rw [hml]; rfl) (argsL := [(.ref b5), (.int (5 : Int32)), (.long q4)]) (rest := []) (lenOf pd_0_0 rfl) rfl (by show 2 * 0 + _ ≤ _; exact Nat.le_of_eq rfl) (hb hby at_51) (fun _ _ => ⟨rfl, rfl, (by decide : 1 + 0 ≤ _), (by decide : 7 + 0 ≤ _)⟩)
  dsimp only [Pt.U, Pt.locs, Pt.cells, Pt.slots] at X11 l11 y11 z11 st11 hQ11
  subst l11 y11 z11
  obtain ⟨rfl, N11q, KQ11', B11q⟩ := hQ11
  have N11 := Fr.app N10 N11q
  have KQ11 : Keep T10.heap T11.heap [b5] := KQ11'
  have K11 : Keep h0 T11.heap [] := K10.trans KQ11 (allS (Or.inr sz_b5) all0)
  -- pc 59: com/example/rosehip/rosehip/codec/BerReaderHasMorePinLaw.put by its contract rm1
  obtain ⟨_, _, ⟨T12, L12, k12, n12⟩, -, X12, ⟨Lc12, hQ12, l12, y12, z12⟩, st12⟩ := Jvm.LawKit.callS X11 hx (y := (⟨"com/example/rosehip/rosehip/codec/BerReaderHasMorePinLaw", "put", "([BIJ)V"⟩ : MethodName)) hown (mvT hZ (hw _ (List.mem_of_getElem? (i := 1) rfl))) (mvT hZ (hw _ (List.mem_of_getElem? (i := 2) rfl))) (mvT hZ (hw _ (List.mem_of_getElem? (i := 3) rfl))) (mvT hZ (hw _ (List.mem_of_getElem? (i := 4) rfl))) (by decide) (backOf (W := 0) (rm1 l Z a0 hw [] b5 (6 : Int32) q4 (p1 &&& (7 : Int32)) T11.heap n0 (Nat.le_trans (Nat.le_trans (Nat.le_trans (Nat.le_trans (Nat.le_trans (Nat.le_trans (Nat.le_trans Z0 E5.1) KQ6.1) KQ7.1) KQ8.1) KQ9.1) KQ10.1) KQ11.1) B11q g_b5 (by decide)) hZ (hw _ (List.mem_of_getElem? (i := 4) rfl)) (hw _ (List.mem_of_getElem? (i := 3) rfl)) (by decide) (by decide)) (g := (mkF m 59 #[.val (.int p1), .val (.int p2), .val (.int p3), .val (.long q4), .second, .val (.int (p1 &&& (7 : Int32))), .val (.ref b5), .unset, .unset, .unset, .unset, .unset, .unset] [(.long q4), (.int (6 : Int32)), (.ref b5)])) rfl (by rw [hml]; rfl) (argsL := [(.ref b5), (.int (6 : Int32)), (.long q4)]) (rest := []) (lenOf pd_0_0 rfl) rfl (by show 2 * 0 + _ ≤ _; exact Nat.le_of_eq rfl) (hb hby at_59) (fun _ _ => ⟨rfl, rfl, (by decide : 1 + 0 ≤ _), (by decide : 7 + 0 ≤ _)⟩)
  dsimp only [Pt.U, Pt.locs, Pt.cells, Pt.slots] at X12 l12 y12 z12 st12 hQ12
  subst l12 y12 z12
  obtain ⟨rfl, N12q, KQ12', B12q⟩ := hQ12
  have N12 := Fr.app N11 N12q
  have KQ12 : Keep T11.heap T12.heap [b5] := KQ12'
  have K12 : Keep h0 T12.heap [] := K11.trans KQ12 (allS (Or.inr sz_b5) all0)
  obtain ⟨T13, h13, X13, e13, E13, A13, D13, -, st13⟩ := newO X12 hx hZ hown (hw _ (List.mem_of_getElem? (i := 5) rfl)) (hw _ (List.mem_of_getElem? (i := 6) rfl)) (hw _ (List.mem_of_getElem? (i := 7) rfl)) rfl (g := (mkF m 62 #[.val (.int p1), .val (.int p2), .val (.int p3), .val (.long q4), .second, .val (.int (p1 &&& (7 : Int32))), .val (.ref b5), .unset, .unset, .unset, .unset, .unset, .unset] [])) rfl (hb hby at_62) (by decide) (by decide)
  obtain ⟨b13, g13⟩ : ∃ z, z = T12.heap.size := ⟨_, rfl⟩      -- the fresh object's address
  rw [← g13] at A13 D13 st13      -- A13 : Exa Z h13 b13 "com/example/rosehip/rosehip/codec/BerReader"; E13 : Ext T12.heap h13 (carries every older fact: .ext E13)
  have F_bytes_b13 : Fld Z h13 b13 "com/example/rosehip/rosehip/codec/BerReader" "bytes" "[B" .null := D13 (Or.inr (hw _ (List.mem_of_getElem? (i := 18) rfl))) (ty := (.array .byte)) (by decide)
  have F_position_b13 : Fld Z h13 b13 "com/example/rosehip/rosehip/codec/BerReader" "position" "I" (.int (0 : Int32)) := D13 (Or.inl (hw _ (List.mem_of_getElem? (i := 20) rfl))) (ty := .int) (by decide)
  have F_limit_b13 : Fld Z h13 b13 "com/example/rosehip/rosehip/codec/BerReader" "limit" "I" (.int (0 : Int32)) := D13 (Or.inr (hw _ (List.mem_of_getElem? (i := 22) rfl))) (ty := .int) (by decide)
  have E_b13 := A13
  have g_b13 : n0 ≤ b13 := Nat.le_trans (Nat.le_trans (Nat.le_trans (Nat.le_trans (Nat.le_trans (Nat.le_trans (Nat.le_trans (Nat.le_trans (Nat.le_trans Z0 E5.1) KQ6.1) KQ7.1) KQ8.1) KQ9.1) KQ10.1) KQ11.1) KQ12.1) (Nat.le_of_eq g13.symm)
  have sz_b13 : h0.size ≤ b13 := (Nat.le_trans K12.1 (Nat.le_of_eq g13.symm))
  have K13 : Keep h0 h13 [] := K12.ext E13
  -- pc 68: the constructor of com/example/rosehip/rosehip/codec/BerReader by its contract rm2
  obtain ⟨_, _, ⟨T14, L14, k14, n14⟩, -, X14, ⟨Lc14, hQ14, l14, y14, z14⟩, st14⟩ := X13.specialBack hx (y := (⟨"com/example/rosehip/rosehip/codec/BerReader", "<init>", "([B)V"⟩ : MethodName)) rfl hown (mvT hZ (hw _ (List.mem_of_getElem? (i := 8) rfl))) (mvT hZ (hw _ (List.mem_of_getElem? (i := 9) rfl))) (mvT hZ (hw _ (List.mem_of_getElem? (i := 10) rfl))) (by decide) (backOf (W := 1) (rm2 l Z a0 hw [] b13 b5 (p1 &&& (7 : Int32)) .null (.int (0 : Int32)) (.int (0 : Int32)) h13 n0 (Nat.le_trans (Nat.le_trans (Nat.le_trans (Nat.le_trans (Nat.le_trans (Nat.le_trans (Nat.le_trans (Nat.le_trans (Nat.le_trans Z0 E5.1) KQ6.1) KQ7.1) KQ8.1) KQ9.1) KQ10.1) KQ11.1) KQ12.1) E13.1) E_b13 F_bytes_b13 g_b13 F_position_b13 F_limit_b13 (B12q.ext E13)) hZ (hw _ (List.mem_of_getElem? (i := 10) rfl)) (hw _ (List.mem_of_getElem? (i := 7) rfl)) (by decide) (by decide)) (g := (mkF m 68 #[.val (.int p1), .val (.int p2), .val (.int p3), .val (.long q4), .second, .val (.int (p1 &&& (7 : Int32))), .val (.ref b5), .unset, .unset, .unset, .unset, .unset, .unset] [(.ref b5), (.ref b13), (.ref b13)])) rfl (by rw [hml]; rfl) (Steps.refl _) (a := b13) (argsL := [(.ref b5)]) (rest := [(.ref b13)]) (lenOf pd_0_1 rfl) rfl (by show 2 * 0 + _ ≤ _; exact Nat.le_of_eq rfl) (hb hby at_68) (fun _ _ => ⟨rfl, e13, (by decide : 2 + 0 ≤ _), (by decide : 10 + 0 ≤ _)⟩)
  dsimp only [Pt.U, Pt.locs, Pt.cells, Pt.slots] at X14 l14 y14 z14 st14 hQ14
  subst l14 y14 z14
  obtain ⟨rfl, N14q, KQ14', E14q, Fb14q, Fp14q, Fl14q⟩ := hQ14
  have N14 := Fr.app N12 N14q
  have KQ14 : Keep h13 T14.heap [b13] := KQ14'
  have K14 : Keep h0 T14.heap [] := K13.trans KQ14 (allS (Or.inr sz_b13) all0)
  -- pc 75: com/example/rosehip/rosehip/codec/BerReader.hasMore by the contract of the body that the receiver's class selects, rm5
  obtain ⟨cq15, kq15, q15a, q15b, q15c⟩ := isOf hZ rfl E14q
  obtain ⟨_, _, ⟨T15, L15, k15, n15⟩, -, X15, ⟨Lc15, hQ15, l15, y15, z15⟩, st15⟩ := X14.virtualBack hx (y := (⟨"com/example/rosehip/rosehip/codec/BerReader", "hasMore", "()Z"⟩ : MethodName)) (z := (⟨"com/example/rosehip/rosehip/codec/BerReader", "hasMore", "()Z"⟩ : MethodName)) hown (mvT hZ (hw _ (List.mem_of_getElem? (i := 23) rfl))) (mvT hZ (hw _ (List.mem_of_getElem? (i := 24) rfl))) (notFace_of_selects (args := #[]) (mvT hZ (hw _ (List.mem_of_getElem? (i := 26) rfl)))) (mvT hZ (hw _ (List.mem_of_getElem? (i := 26) rfl))) (mvT hZ (hw _ (List.mem_of_getElem? (i := 25) rfl))) (by decide) (backOf (W := 0) (rm5 l Z a0 hw [] b13 (0 : Int32) (p1 &&& (7 : Int32)) T14.heap n0 (Nat.le_trans (Nat.le_trans (Nat.le_trans (Nat.le_trans (Nat.le_trans (Nat.le_trans (Nat.le_trans (Nat.le_trans (Nat.le_trans (Nat.le_trans Z0 E5.1) KQ6.1) KQ7.1) KQ8.1) KQ9.1) KQ10.1) KQ11.1) KQ12.1) E13.1) KQ14.1) Fp14q Fl14q) hZ (hw _ (List.mem_of_getElem? (i := 27) rfl)) (hw _ (List.mem_of_getElem? (i := 7) rfl)) (by decide) (by decide)) q15a q15c (g := (mkF m 75 #[.val (.int p1), .val (.int p2), .val (.int p3), .val (.long q4), .second, .val (.int (p1 &&& (7 : Int32))), .val (.ref b5), .val (.ref b13), .unset, .unset, .unset, .unset, .unset] [(.ref b13)])) rfl (by rw [hml]; rfl) (Steps.refl _) (argsL := []) (rest := []) (lenOf pd_0_4 rfl) rfl (by show 2 * 0 + _ ≤ _; exact Nat.le_of_eq rfl) (hb hby at_75) (fun _ _ => ⟨rfl, rfl, (by decide : 2 + 0 ≤ _), (by decide : 10 + 0 ≤ _)⟩)
  dsimp only [Pt.U, Pt.locs, Pt.cells, Pt.slots] at X15 l15 y15 z15 st15 hQ15
  subst l15 y15 z15
  obtain ⟨rfl, N15q, eh15⟩ := hQ15
  have N15 := Fr.app N14 N15q
  -- pc 99: com/example/rosehip/rosehip/codec/BerReader.hasMore by the contract of the body that the receiver's class selects, rm5
  obtain ⟨cq16, kq16, q16a, q16b, q16c⟩ := isOf hZ eh15 E14q
  obtain ⟨_, _, ⟨T16, L16, k16, n16⟩, -, X16, ⟨Lc16, hQ16, l16, y16, z16⟩, st16⟩ := X15.virtualBack hx (y := (⟨"com/example/rosehip/rosehip/codec/BerReader", "hasMore", "()Z"⟩ : MethodName)) (z := (⟨"com/example/rosehip/rosehip/codec/BerReader", "hasMore", "()Z"⟩ : MethodName)) hown (mvT hZ (hw _ (List.mem_of_getElem? (i := 23) rfl))) (mvT hZ (hw _ (List.mem_of_getElem? (i := 24) rfl))) (notFace_of_selects (args := #[]) (mvT hZ (hw _ (List.mem_of_getElem? (i := 26) rfl)))) (mvT hZ (hw _ (List.mem_of_getElem? (i := 26) rfl))) (mvT hZ (hw _ (List.mem_of_getElem? (i := 25) rfl))) (by decide) (backOf (W := 0) (rm5 l Z a0 hw [] b13 (0 : Int32) (p1 &&& (7 : Int32)) T14.heap n0 (Nat.le_trans (Nat.le_trans (Nat.le_trans (Nat.le_trans (Nat.le_trans (Nat.le_trans (Nat.le_trans (Nat.le_trans (Nat.le_trans (Nat.le_trans Z0 E5.1) KQ6.1) KQ7.1) KQ8.1) KQ9.1) KQ10.1) KQ11.1) KQ12.1) E13.1) KQ14.1) Fp14q Fl14q) hZ (hw _ (List.mem_of_getElem? (i := 27) rfl)) (hw _ (List.mem_of_getElem? (i := 7) rfl)) (by decide) (by decide)) q16a q16c (g := (mkF m 99 #[.val (.int p1), .val (.int p2), .val (.int p3), .val (.long q4), .second, .val (.int (p1 &&& (7 : Int32))), .val (.ref b5), .val (.ref b13), .val (.int (fv5 (0 : Int32) (p1 &&& (7 : Int32)))), .unset, .unset, .unset, .unset] [(.ref b13)])) rfl (by rw [hml]; rfl) (Steps.refl _) (argsL := []) (rest := []) (lenOf pd_0_4 rfl) rfl (by show 2 * 0 + _ ≤ _; exact Nat.le_of_eq rfl) (hb hby at_99) (fun _ _ => ⟨rfl, eh15, (by decide : 2 + 0 ≤ _), (by decide : 10 + 0 ≤ _)⟩)
  dsimp only [Pt.U, Pt.locs, Pt.cells, Pt.slots] at X16 l16 y16 z16 st16 hQ16
  subst l16 y16 z16
  obtain ⟨rfl, N16q, eh16⟩ := hQ16
  have N16 := Fr.app N15 N16q
  obtain ⟨fs, hr, hrun, hended, hW, hsame⟩ := X16.leave (v := some (.int (1 : Int32))) (fun h => by rw [Bd.returns] at h; cases h)
  refine ⟨_, _, pre0 _ ?_, hrun, hended, _, _, rfl, ?_, ⟨_, rfl⟩, hW, hsame.mono (by decide) (by decide)⟩
  -- 4. STEPS
  · show Steps p.tables e below (s₁.setTop (mkF m 0 #[.val (.int p1), .val (.int p2), .val (.int p3), .val (.long q4), .second, .unset, .unset, .unset, .unset, .unset, .unset, .unset, .unset] [])) _
    refine XS.iloadN X0.here hx rfl (hb hby at_0) rfl ?_
    show Steps p.tables e below (s₁.setTop (mkF m 1 #[.val (.int p1), .val (.int p2), .val (.int p3), .val (.long q4), .second, .unset, .unset, .unset, .unset, .unset, .unset, .unset, .unset] [(.int p1)])) _
    refine XS.bipush X0.here hx rfl (hb hby at_1) ?_
    show Steps p.tables e below (s₁.setTop (mkF m 3 #[.val (.int p1), .val (.int p2), .val (.int p3), .val (.long q4), .second, .unset, .unset, .unset, .unset, .unset, .unset, .unset, .unset] [(.int (7 : Int32)), (.int p1)])) _
    refine XS.iand X0.here hx rfl (hb hby at_3) rfl ?_
    show Steps p.tables e below (s₁.setTop (mkF m 4 #[.val (.int p1), .val (.int p2), .val (.int p3), .val (.long q4), .second, .unset, .unset, .unset, .unset, .unset, .unset, .unset, .unset] [(.int (p1 &&& (7 : Int32)))])) _
    refine XS.istore X0.here hx rfl (hb hby at_4) rfl (l' := #[.val (.int p1), .val (.int p2), .val (.int p3), .val (.long q4), .second, .val (.int (p1 &&& (7 : Int32))), .unset, .unset, .unset, .unset, .unset, .unset, .unset]) rfl ?_
    show Steps p.tables e below (s₁.setTop (mkF m 6 #[.val (.int p1), .val (.int p2), .val (.int p3), .val (.long q4), .second, .val (.int (p1 &&& (7 : Int32))), .unset, .unset, .unset, .unset, .unset, .unset, .unset] [])) _
    refine XS.iload X0.here hx rfl (hb hby at_6) rfl ?_
    show Steps p.tables e below (s₁.setTop (mkF m 8 #[.val (.int p1), .val (.int p2), .val (.int p3), .val (.long q4), .second, .val (.int (p1 &&& (7 : Int32))), .unset, .unset, .unset, .unset, .unset, .unset, .unset] [(.int (p1 &&& (7 : Int32)))])) _
    refine st5 _ ?_
    show Steps p.tables e below (T5.setTop (mkF m 10 #[.val (.int p1), .val (.int p2), .val (.int p3), .val (.long q4), .second, .val (.int (p1 &&& (7 : Int32))), .unset, .unset, .unset, .unset, .unset, .unset, .unset] [(.ref b5)])) _
    refine XS.astore X5.here hx rfl (hb hby at_10) rfl rfl (l' := #[.val (.int p1), .val (.int p2), .val (.int p3), .val (.long q4), .second, .val (.int (p1 &&& (7 : Int32))), .val (.ref b5), .unset, .unset, .unset, .unset, .unset, .unset]) rfl ?_
    show Steps p.tables e below (T5.setTop (mkF m 12 #[.val (.int p1), .val (.int p2), .val (.int p3), .val (.long q4), .second, .val (.int (p1 &&& (7 : Int32))), .val (.ref b5), .unset, .unset, .unset, .unset, .unset, .unset] [])) _
    refine XS.aload X5.here hx rfl (hb hby at_12) rfl rfl ?_
    show Steps p.tables e below (T5.setTop (mkF m 14 #[.val (.int p1), .val (.int p2), .val (.int p3), .val (.long q4), .second, .val (.int (p1 &&& (7 : Int32))), .val (.ref b5), .unset, .unset, .unset, .unset, .unset, .unset] [(.ref b5)])) _
    refine XS.iconst X5.here hx rfl (hb hby at_14) ?_
    show Steps p.tables e below (T5.setTop (mkF m 15 #[.val (.int p1), .val (.int p2), .val (.int p3), .val (.long q4), .second, .val (.int (p1 &&& (7 : Int32))), .val (.ref b5), .unset, .unset, .unset, .unset, .unset, .unset] [(.int (0 : Int32)), (.ref b5)])) _
    refine XS.lloadN X5.here hx rfl (hb hby at_15) rfl ?_
    show Steps p.tables e below (T5.setTop (mkF m 16 #[.val (.int p1), .val (.int p2), .val (.int p3), .val (.long q4), .second, .val (.int (p1 &&& (7 : Int32))), .val (.ref b5), .unset, .unset, .unset, .unset, .unset, .unset] [(.long q4), (.int (0 : Int32)), (.ref b5)])) _
    refine st6 _ ?_
    show Steps p.tables e below (T6.setTop (mkF m 19 #[.val (.int p1), .val (.int p2), .val (.int p3), .val (.long q4), .second, .val (.int (p1 &&& (7 : Int32))), .val (.ref b5), .unset, .unset, .unset, .unset, .unset, .unset] [])) _
    refine XS.aload X6.here hx rfl (hb hby at_19) rfl rfl ?_
    show Steps p.tables e below (T6.setTop (mkF m 21 #[.val (.int p1), .val (.int p2), .val (.int p3), .val (.long q4), .second, .val (.int (p1 &&& (7 : Int32))), .val (.ref b5), .unset, .unset, .unset, .unset, .unset, .unset] [(.ref b5)])) _
    refine XS.iconst X6.here hx rfl (hb hby at_21) ?_
    show Steps p.tables e below (T6.setTop (mkF m 22 #[.val (.int p1), .val (.int p2), .val (.int p3), .val (.long q4), .second, .val (.int (p1 &&& (7 : Int32))), .val (.ref b5), .unset, .unset, .unset, .unset, .unset, .unset] [(.int (1 : Int32)), (.ref b5)])) _
    refine XS.lloadN X6.here hx rfl (hb hby at_22) rfl ?_
    show Steps p.tables e below (T6.setTop (mkF m 23 #[.val (.int p1), .val (.int p2), .val (.int p3), .val (.long q4), .second, .val (.int (p1 &&& (7 : Int32))), .val (.ref b5), .unset, .unset, .unset, .unset, .unset, .unset] [(.long q4), (.int (1 : Int32)), (.ref b5)])) _
    refine st7 _ ?_
    show Steps p.tables e below (T7.setTop (mkF m 26 #[.val (.int p1), .val (.int p2), .val (.int p3), .val (.long q4), .second, .val (.int (p1 &&& (7 : Int32))), .val (.ref b5), .unset, .unset, .unset, .unset, .unset, .unset] [])) _
    refine XS.aload X7.here hx rfl (hb hby at_26) rfl rfl ?_
    show Steps p.tables e below (T7.setTop (mkF m 28 #[.val (.int p1), .val (.int p2), .val (.int p3), .val (.long q4), .second, .val (.int (p1 &&& (7 : Int32))), .val (.ref b5), .unset, .unset, .unset, .unset, .unset, .unset] [(.ref b5)])) _
    refine XS.iconst X7.here hx rfl (hb hby at_28) ?_
    show Steps p.tables e below (T7.setTop (mkF m 29 #[.val (.int p1), .val (.int p2), .val (.int p3), .val (.long q4), .second, .val (.int (p1 &&& (7 : Int32))), .val (.ref b5), .unset, .unset, .unset, .unset, .unset, .unset] [(.int (2 : Int32)), (.ref b5)])) _
    refine XS.lloadN X7.here hx rfl (hb hby at_29) rfl ?_
    show Steps p.tables e below (T7.setTop (mkF m 30 #[.val (.int p1), .val (.int p2), .val (.int p3), .val (.long q4), .second, .val (.int (p1 &&& (7 : Int32))), .val (.ref b5), .unset, .unset, .unset, .unset, .unset, .unset] [(.long q4), (.int (2 : Int32)), (.ref b5)])) _
    refine st8 _ ?_
    show Steps p.tables e below (T8.setTop (mkF m 33 #[.val (.int p1), .val (.int p2), .val (.int p3), .val (.long q4), .second, .val (.int (p1 &&& (7 : Int32))), .val (.ref b5), .unset, .unset, .unset, .unset, .unset, .unset] [])) _
    refine XS.aload X8.here hx rfl (hb hby at_33) rfl rfl ?_
    show Steps p.tables e below (T8.setTop (mkF m 35 #[.val (.int p1), .val (.int p2), .val (.int p3), .val (.long q4), .second, .val (.int (p1 &&& (7 : Int32))), .val (.ref b5), .unset, .unset, .unset, .unset, .unset, .unset] [(.ref b5)])) _
    refine XS.iconst X8.here hx rfl (hb hby at_35) ?_
    show Steps p.tables e below (T8.setTop (mkF m 36 #[.val (.int p1), .val (.int p2), .val (.int p3), .val (.long q4), .second, .val (.int (p1 &&& (7 : Int32))), .val (.ref b5), .unset, .unset, .unset, .unset, .unset, .unset] [(.int (3 : Int32)), (.ref b5)])) _
    refine XS.lloadN X8.here hx rfl (hb hby at_36) rfl ?_
    show Steps p.tables e below (T8.setTop (mkF m 37 #[.val (.int p1), .val (.int p2), .val (.int p3), .val (.long q4), .second, .val (.int (p1 &&& (7 : Int32))), .val (.ref b5), .unset, .unset, .unset, .unset, .unset, .unset] [(.long q4), (.int (3 : Int32)), (.ref b5)])) _
    refine st9 _ ?_
    show Steps p.tables e below (T9.setTop (mkF m 40 #[.val (.int p1), .val (.int p2), .val (.int p3), .val (.long q4), .second, .val (.int (p1 &&& (7 : Int32))), .val (.ref b5), .unset, .unset, .unset, .unset, .unset, .unset] [])) _
    refine XS.aload X9.here hx rfl (hb hby at_40) rfl rfl ?_
    show Steps p.tables e below (T9.setTop (mkF m 42 #[.val (.int p1), .val (.int p2), .val (.int p3), .val (.long q4), .second, .val (.int (p1 &&& (7 : Int32))), .val (.ref b5), .unset, .unset, .unset, .unset, .unset, .unset] [(.ref b5)])) _
    refine XS.iconst X9.here hx rfl (hb hby at_42) ?_
    show Steps p.tables e below (T9.setTop (mkF m 43 #[.val (.int p1), .val (.int p2), .val (.int p3), .val (.long q4), .second, .val (.int (p1 &&& (7 : Int32))), .val (.ref b5), .unset, .unset, .unset, .unset, .unset, .unset] [(.int (4 : Int32)), (.ref b5)])) _
    refine XS.lloadN X9.here hx rfl (hb hby at_43) rfl ?_
    show Steps p.tables e below (T9.setTop (mkF m 44 #[.val (.int p1), .val (.int p2), .val (.int p3), .val (.long q4), .second, .val (.int (p1 &&& (7 : Int32))), .val (.ref b5), .unset, .unset, .unset, .unset, .unset, .unset] [(.long q4), (.int (4 : Int32)), (.ref b5)])) _
    refine st10 _ ?_
    show Steps p.tables e below (T10.setTop (mkF m 47 #[.val (.int p1), .val (.int p2), .val (.int p3), .val (.long q4), .second, .val (.int (p1 &&& (7 : Int32))), .val (.ref b5), .unset, .unset, .unset, .unset, .unset, .unset] [])) _
    refine XS.aload X10.here hx rfl (hb hby at_47) rfl rfl ?_
    show Steps p.tables e below (T10.setTop (mkF m 49 #[.val (.int p1), .val (.int p2), .val (.int p3), .val (.long q4), .second, .val (.int (p1 &&& (7 : Int32))), .val (.ref b5), .unset, .unset, .unset, .unset, .unset, .unset] [(.ref b5)])) _
    refine XS.iconst X10.here hx rfl (hb hby at_49) ?_
    show Steps p.tables e below (T10.setTop (mkF m 50 #[.val (.int p1), .val (.int p2), .val (.int p3), .val (.long q4), .second, .val (.int (p1 &&& (7 : Int32))), .val (.ref b5), .unset, .unset, .unset, .unset, .unset, .unset] [(.int (5 : Int32)), (.ref b5)])) _
    refine XS.lloadN X10.here hx rfl (hb hby at_50) rfl ?_
    show Steps p.tables e below (T10.setTop (mkF m 51 #[.val (.int p1), .val (.int p2), .val (.int p3), .val (.long q4), .second, .val (.int (p1 &&& (7 : Int32))), .val (.ref b5), .unset, .unset, .unset, .unset, .unset, .unset] [(.long q4), (.int (5 : Int32)), (.ref b5)])) _
    refine st11 _ ?_
    show Steps p.tables e below (T11.setTop (mkF m 54 #[.val (.int p1), .val (.int p2), .val (.int p3), .val (.long q4), .second, .val (.int (p1 &&& (7 : Int32))), .val (.ref b5), .unset, .unset, .unset, .unset, .unset, .unset] [])) _
    refine XS.aload X11.here hx rfl (hb hby at_54) rfl rfl ?_
    show Steps p.tables e below (T11.setTop (mkF m 56 #[.val (.int p1), .val (.int p2), .val (.int p3), .val (.long q4), .second, .val (.int (p1 &&& (7 : Int32))), .val (.ref b5), .unset, .unset, .unset, .unset, .unset, .unset] [(.ref b5)])) _
    refine XS.bipush X11.here hx rfl (hb hby at_56) ?_
    show Steps p.tables e below (T11.setTop (mkF m 58 #[.val (.int p1), .val (.int p2), .val (.int p3), .val (.long q4), .second, .val (.int (p1 &&& (7 : Int32))), .val (.ref b5), .unset, .unset, .unset, .unset, .unset, .unset] [(.int (6 : Int32)), (.ref b5)])) _
    refine XS.lloadN X11.here hx rfl (hb hby at_58) rfl ?_
    show Steps p.tables e below (T11.setTop (mkF m 59 #[.val (.int p1), .val (.int p2), .val (.int p3), .val (.long q4), .second, .val (.int (p1 &&& (7 : Int32))), .val (.ref b5), .unset, .unset, .unset, .unset, .unset, .unset] [(.long q4), (.int (6 : Int32)), (.ref b5)])) _
    refine st12 _ ?_
    show Steps p.tables e below (T12.setTop (mkF m 62 #[.val (.int p1), .val (.int p2), .val (.int p3), .val (.long q4), .second, .val (.int (p1 &&& (7 : Int32))), .val (.ref b5), .unset, .unset, .unset, .unset, .unset, .unset] [])) _
    refine st13 _ ?_
    show Steps p.tables e below (T13.setTop (mkF m 65 #[.val (.int p1), .val (.int p2), .val (.int p3), .val (.long q4), .second, .val (.int (p1 &&& (7 : Int32))), .val (.ref b5), .unset, .unset, .unset, .unset, .unset, .unset] [(.ref b13)])) _
    refine XS.dup X13.here hx rfl (hb hby at_65) rfl rfl ?_
    show Steps p.tables e below (T13.setTop (mkF m 66 #[.val (.int p1), .val (.int p2), .val (.int p3), .val (.long q4), .second, .val (.int (p1 &&& (7 : Int32))), .val (.ref b5), .unset, .unset, .unset, .unset, .unset, .unset] [(.ref b13), (.ref b13)])) _
    refine XS.aload X13.here hx rfl (hb hby at_66) rfl rfl ?_
    show Steps p.tables e below (T13.setTop (mkF m 68 #[.val (.int p1), .val (.int p2), .val (.int p3), .val (.long q4), .second, .val (.int (p1 &&& (7 : Int32))), .val (.ref b5), .unset, .unset, .unset, .unset, .unset, .unset] [(.ref b5), (.ref b13), (.ref b13)])) _
    refine st14.trans ?_
    show Steps p.tables e below (T14.setTop (mkF m 71 #[.val (.int p1), .val (.int p2), .val (.int p3), .val (.long q4), .second, .val (.int (p1 &&& (7 : Int32))), .val (.ref b5), .unset, .unset, .unset, .unset, .unset, .unset] [(.ref b13)])) _
    refine XS.astore X14.here hx rfl (hb hby at_71) rfl rfl (l' := #[.val (.int p1), .val (.int p2), .val (.int p3), .val (.long q4), .second, .val (.int (p1 &&& (7 : Int32))), .val (.ref b5), .val (.ref b13), .unset, .unset, .unset, .unset, .unset]) rfl ?_
    show Steps p.tables e below (T14.setTop (mkF m 73 #[.val (.int p1), .val (.int p2), .val (.int p3), .val (.long q4), .second, .val (.int (p1 &&& (7 : Int32))), .val (.ref b5), .val (.ref b13), .unset, .unset, .unset, .unset, .unset] [])) _
    refine XS.aload X14.here hx rfl (hb hby at_73) rfl rfl ?_
    show Steps p.tables e below (T14.setTop (mkF m 75 #[.val (.int p1), .val (.int p2), .val (.int p3), .val (.long q4), .second, .val (.int (p1 &&& (7 : Int32))), .val (.ref b5), .val (.ref b13), .unset, .unset, .unset, .unset, .unset] [(.ref b13)])) _
    refine st15.trans ?_
    show Steps p.tables e below (T15.setTop (mkF m 78 #[.val (.int p1), .val (.int p2), .val (.int p3), .val (.long q4), .second, .val (.int (p1 &&& (7 : Int32))), .val (.ref b5), .val (.ref b13), .unset, .unset, .unset, .unset, .unset] [(.int (fv5 (0 : Int32) (p1 &&& (7 : Int32))))])) _
    refine XS.istore X15.here hx rfl (hb hby at_78) rfl (l' := #[.val (.int p1), .val (.int p2), .val (.int p3), .val (.long q4), .second, .val (.int (p1 &&& (7 : Int32))), .val (.ref b5), .val (.ref b13), .val (.int (fv5 (0 : Int32) (p1 &&& (7 : Int32)))), .unset, .unset, .unset, .unset]) rfl ?_
    show Steps p.tables e below (T15.setTop (mkF m 80 #[.val (.int p1), .val (.int p2), .val (.int p3), .val (.long q4), .second, .val (.int (p1 &&& (7 : Int32))), .val (.ref b5), .val (.ref b13), .val (.int (fv5 (0 : Int32) (p1 &&& (7 : Int32)))), .unset, .unset, .unset, .unset] [])) _
    refine XS.iload X15.here hx rfl (hb hby at_80) rfl ?_
    show Steps p.tables e below (T15.setTop (mkF m 82 #[.val (.int p1), .val (.int p2), .val (.int p3), .val (.long q4), .second, .val (.int (p1 &&& (7 : Int32))), .val (.ref b5), .val (.ref b13), .val (.int (fv5 (0 : Int32) (p1 &&& (7 : Int32)))), .unset, .unset, .unset, .unset] [(.int (fv5 (0 : Int32) (p1 &&& (7 : Int32))))])) _
    refine XS.iload X15.here hx rfl (hb hby at_82) rfl ?_
    show Steps p.tables e below (T15.setTop (mkF m 84 #[.val (.int p1), .val (.int p2), .val (.int p3), .val (.long q4), .second, .val (.int (p1 &&& (7 : Int32))), .val (.ref b5), .val (.ref b13), .val (.int (fv5 (0 : Int32) (p1 &&& (7 : Int32)))), .unset, .unset, .unset, .unset] [(.int (p1 &&& (7 : Int32))), (.int (fv5 (0 : Int32) (p1 &&& (7 : Int32))))])) _
    refine XS.ifYes X15.here hx rfl (pc0 := 84) (pc' := 91) rfl (hb hby at_84) rfl ((if0 _ _).trans (flt hc84).2.2.2) (by decide) (by decide) ?_
    show Steps p.tables e below (T15.setTop (mkF m 91 #[.val (.int p1), .val (.int p2), .val (.int p3), .val (.long q4), .second, .val (.int (p1 &&& (7 : Int32))), .val (.ref b5), .val (.ref b13), .val (.int (fv5 (0 : Int32) (p1 &&& (7 : Int32)))), .unset, .unset, .unset, .unset] [(.int (fv5 (0 : Int32) (p1 &&& (7 : Int32))))])) _
    refine XS.iconst X15.here hx rfl (hb hby at_91) ?_
    show Steps p.tables e below (T15.setTop (mkF m 92 #[.val (.int p1), .val (.int p2), .val (.int p3), .val (.long q4), .second, .val (.int (p1 &&& (7 : Int32))), .val (.ref b5), .val (.ref b13), .val (.int (fv5 (0 : Int32) (p1 &&& (7 : Int32)))), .unset, .unset, .unset, .unset] [(.int (0 : Int32)), (.int (fv5 (0 : Int32) (p1 &&& (7 : Int32))))])) _
    refine XS.icmpYes X15.here hx rfl (pc0 := 92) (pc' := 97) rfl (hb hby at_92) rfl (teq hc92).1 (by decide) (by decide) ?_
    show Steps p.tables e below (T15.setTop (mkF m 97 #[.val (.int p1), .val (.int p2), .val (.int p3), .val (.long q4), .second, .val (.int (p1 &&& (7 : Int32))), .val (.ref b5), .val (.ref b13), .val (.int (fv5 (0 : Int32) (p1 &&& (7 : Int32)))), .unset, .unset, .unset, .unset] [])) _
    refine XS.aload X15.here hx rfl (hb hby at_97) rfl rfl ?_
    show Steps p.tables e below (T15.setTop (mkF m 99 #[.val (.int p1), .val (.int p2), .val (.int p3), .val (.long q4), .second, .val (.int (p1 &&& (7 : Int32))), .val (.ref b5), .val (.ref b13), .val (.int (fv5 (0 : Int32) (p1 &&& (7 : Int32)))), .unset, .unset, .unset, .unset] [(.ref b13)])) _
    refine st16.trans ?_
    show Steps p.tables e below (T16.setTop (mkF m 102 #[.val (.int p1), .val (.int p2), .val (.int p3), .val (.long q4), .second, .val (.int (p1 &&& (7 : Int32))), .val (.ref b5), .val (.ref b13), .val (.int (fv5 (0 : Int32) (p1 &&& (7 : Int32)))), .unset, .unset, .unset, .unset] [(.int (fv5 (0 : Int32) (p1 &&& (7 : Int32))))])) _
    refine XS.iload X16.here hx rfl (hb hby at_102) rfl ?_
    show Steps p.tables e below (T16.setTop (mkF m 104 #[.val (.int p1), .val (.int p2), .val (.int p3), .val (.long q4), .second, .val (.int (p1 &&& (7 : Int32))), .val (.ref b5), .val (.ref b13), .val (.int (fv5 (0 : Int32) (p1 &&& (7 : Int32)))), .unset, .unset, .unset, .unset] [(.int (fv5 (0 : Int32) (p1 &&& (7 : Int32)))), (.int (fv5 (0 : Int32) (p1 &&& (7 : Int32))))])) _
    refine XS.icmpYes X16.here hx rfl (pc0 := 104) (pc' := 109) rfl (hb hby at_104) rfl (teq (rfl : (fv5 (0 : Int32) (p1 &&& (7 : Int32))) = (fv5 (0 : Int32) (p1 &&& (7 : Int32))))).1 (by decide) (by decide) ?_
    show Steps p.tables e below (T16.setTop (mkF m 109 #[.val (.int p1), .val (.int p2), .val (.int p3), .val (.long q4), .second, .val (.int (p1 &&& (7 : Int32))), .val (.ref b5), .val (.ref b13), .val (.int (fv5 (0 : Int32) (p1 &&& (7 : Int32)))), .unset, .unset, .unset, .unset] [])) _
    refine XS.iload X16.here hx rfl (hb hby at_109) rfl ?_
    show Steps p.tables e below (T16.setTop (mkF m 111 #[.val (.int p1), .val (.int p2), .val (.int p3), .val (.long q4), .second, .val (.int (p1 &&& (7 : Int32))), .val (.ref b5), .val (.ref b13), .val (.int (fv5 (0 : Int32) (p1 &&& (7 : Int32)))), .unset, .unset, .unset, .unset] [(.int (p1 &&& (7 : Int32)))])) _
    refine XS.iconst X16.here hx rfl (hb hby at_111) ?_
    show Steps p.tables e below (T16.setTop (mkF m 112 #[.val (.int p1), .val (.int p2), .val (.int p3), .val (.long q4), .second, .val (.int (p1 &&& (7 : Int32))), .val (.ref b5), .val (.ref b13), .val (.int (fv5 (0 : Int32) (p1 &&& (7 : Int32)))), .unset, .unset, .unset, .unset] [(.int (2 : Int32)), (.int (p1 &&& (7 : Int32)))])) _
    refine XS.icmpNo X16.here hx rfl (hb hby at_112) rfl (tlt hc112).2.1 ?_
    show Steps p.tables e below (T16.setTop (mkF m 115 #[.val (.int p1), .val (.int p2), .val (.int p3), .val (.long q4), .second, .val (.int (p1 &&& (7 : Int32))), .val (.ref b5), .val (.ref b13), .val (.int (fv5 (0 : Int32) (p1 &&& (7 : Int32)))), .unset, .unset, .unset, .unset] [])) _
    refine XS.iconst X16.here hx rfl (hb hby at_115) ?_
    show Steps p.tables e below (T16.setTop (mkF m 116 #[.val (.int p1), .val (.int p2), .val (.int p3), .val (.long q4), .second, .val (.int (p1 &&& (7 : Int32))), .val (.ref b5), .val (.ref b13), .val (.int (fv5 (0 : Int32) (p1 &&& (7 : Int32)))), .unset, .unset, .unset, .unset] [(.int (1 : Int32))])) _
    exact retN X16 hx (t := .boolean) Bd.returns (by simp) (hb hby at_116) hr
  · show QF n0 _ T16.heap _
    rw [eh16]
    exact ⟨rfl, N16, trivial⟩
set_option maxRecDepth 65536 in
set_option maxHeartbeats 40000000 in
theorem rm0_fttf (l : Launch) (Z : State) (a0 : Array Value) (hw : ∀ d ∈ tables_1, d.before a0 Z = true) (ws : List Jvm.Cond) (p1 : Int32) (p2 : Int32) (p3 : Int32) (q4 : Int64) (h0 : Heap) (n0 : Nat) (Z0 : n0 ≤ h0.size) (hng : ¬ (p1 &&& (7 : Int32)) < 0) (hcap : (p1 &&& (7 : Int32)).toNatClampNeg ≤ 7) (hc84 : (0 : Int32) < (p1 &&& (7 : Int32))) (hc92 : (fv5 (0 : Int32) (p1 &&& (7 : Int32))) = (1 : Int32)) (hc112 : (p1 &&& (7 : Int32)) < (2 : Int32)) :
    MetFree l x (head1 (Jvm.Cond.code x code maxLocals ret :: ws) room_1) (fun a U => a = #[(.int p1), (.int p2), (.int p3), (.long q4)] ∧ Z.Warmed39 U.vm ∧ U.heap = h0) (fun _ _ _ _ _ => True) (fun _ U o U' => ∃ v L, o = .returned v ∧ QF n0 v U'.heap L ∧ FrameEnd U o U' L room_1.cells room_1.slots) := by
  refine MetFree.of_bodySF (plainFor_of_name pn_0) hisR ?_
  intro p e s m args below meth c s₁ Bd hml0 hP hK
  obtain ⟨rfl, hZ, hh⟩ := hP
  have hx := Bd.exec
  have hby := Bd.bytes
  have hml : c.maxLocals = 13 := hml0
  have hown : s.vm.findClass "com/example/rosehip/rosehip/codec/BerReaderHasMorePinLaw" = some m.cls := findClass_of_methodNamed Bd.named
  have hnm := (name_of_methodNamed Bd.named Bd.method).1
  have X0 : Stand p l e room_1 s m #[(.int p1), (.int p2), (.int p3), (.long q4)] below meth c s₁ [] 0 0 := Stand.of_body Bd
  have e0 : s₁.heap = h0 := by rw [← hh, Bd.state]; rfl
  have N0 := Fr.nil n0
  have pre0 : ∀ t, Steps p.tables e below (s₁.setTop (mkF m 0 #[.val (.int p1), .val (.int p2), .val (.int p3), .val (.long q4), .second, .unset, .unset, .unset, .unset, .unset, .unset, .unset, .unset] [])) t → Steps p.tables e below (s₁.setTop (entryFrame m #[(.int p1), (.int p2), (.int p3), (.long q4)] maxLocals)) t := fun t k => castTop (ef_0 m p1 p2 p3 q4) k
  -- 3. LAWS
  obtain ⟨T5, h5, k5, X5, e5, E5, A5, st5⟩ := newP X0 hx hZ (hw _ (List.mem_of_getElem? (i := 0) rfl)) e0 (g := (mkF m 8 #[.val (.int p1), .val (.int p2), .val (.int p3), .val (.long q4), .second, .val (.int (p1 &&& (7 : Int32))), .unset, .unset, .unset, .unset, .unset, .unset, .unset] [(.int (p1 &&& (7 : Int32)))])) rfl (hb hby at_8) rfl hng (cap := 7) hcap (by decide) (by decide) (by decide)
  obtain ⟨b5, g5⟩ : ∃ z, z = h0.size := ⟨_, rfl⟩      -- the fresh array's address
  rw [← g5] at A5 st5
  have V_b5 := Arv.new A5 hng      -- Arv Z h5 b5 k5 .byte (p1 &&& (7 : Int32)) [] (its first value); a place must be in the list before it's written: Arv.pad with pad_rep
  have g_b5 : n0 ≤ b5 := Nat.le_trans Z0 (Nat.le_of_eq g5.symm)
  have sz_b5 : h0.size ≤ b5 := (Nat.le_trans (Keep.refl h0 []).1 (Nat.le_of_eq g5.symm))
  have K5 : Keep h0 h5 [] := (Keep.refl h0 []).ext E5
  -- newarray of at most cap (TODO_cap: the greatest length): this body's room: slots + cap; its caller's figures: cells + 1, slots + cap
  -- pc 16: com/example/rosehip/rosehip/codec/BerReaderHasMorePinLaw.put by its contract rm1
  obtain ⟨_, _, ⟨T6, L6, k6, n6⟩, -, X6, ⟨Lc6, hQ6, l6, y6, z6⟩, st6⟩ := Jvm.LawKit.callS X5 hx (y := (⟨"com/example/rosehip/rosehip/codec/BerReaderHasMorePinLaw", "put", "([BIJ)V"⟩ : MethodName)) hown (mvT hZ (hw _ (List.mem_of_getElem? (i := 1) rfl))) (mvT hZ (hw _ (List.mem_of_getElem? (i := 2) rfl))) (mvT hZ (hw _ (List.mem_of_getElem? (i := 3) rfl))) (mvT hZ (hw _ (List.mem_of_getElem? (i := 4) rfl))) (by decide) (backOf (W := 0) (rm1 l Z a0 hw [] b5 (0 : Int32) q4 (p1 &&& (7 : Int32)) h5 n0 (Nat.le_trans Z0 E5.1) (By.of V_b5) g_b5 (by decide)) hZ (hw _ (List.mem_of_getElem? (i := 4) rfl)) (hw _ (List.mem_of_getElem? (i := 3) rfl)) (by decide) (by decide)) (g := (mkF m 16 #[.val (.int p1), .val (.int p2), .val (.int p3), .val (.long q4), .second, .val (.int (p1 &&& (7 : Int32))), .val (.ref b5), .unset, .unset, .unset, .unset, .unset, .unset] [(.long q4), (.int (0 : Int32)), (.ref b5)])) rfl (by rw [hml]; rfl) (argsL := [(.ref b5), (.int (0 : Int32)), (.long q4)]) (rest := []) (lenOf pd_0_0 rfl) rfl (by show 2 * 0 + _ ≤ _; exact Nat.le_of_eq rfl) (hb hby at_16) (fun _ _ => ⟨rfl, e5, (by decide : 1 + 0 ≤ _), (by decide : 7 + 0 ≤ _)⟩)
  dsimp only [Pt.U, Pt.locs, Pt.cells, Pt.slots] at X6 l6 y6 z6 st6 hQ6
  subst l6 y6 z6
  obtain ⟨rfl, N6q, KQ6', B6q⟩ := hQ6
  have N6 := Fr.app N0 N6q
  have KQ6 : Keep h5 T6.heap [b5] := KQ6'
  have K6 : Keep h0 T6.heap [] := K5.trans KQ6 (allS (Or.inr sz_b5) all0)
  -- pc 23: com/example/rosehip/rosehip/codec/BerReaderHasMorePinLaw.put by its contract rm1
  obtain ⟨_, _, ⟨T7, L7, k7, n7⟩, -, X7, ⟨Lc7, hQ7, l7, y7, z7⟩, st7⟩ := Jvm.LawKit.callS X6 hx (y := (⟨"com/example/rosehip/rosehip/codec/BerReaderHasMorePinLaw", "put", "([BIJ)V"⟩ : MethodName)) hown (mvT hZ (hw _ (List.mem_of_getElem? (i := 1) rfl))) (mvT hZ (hw _ (List.mem_of_getElem? (i := 2) rfl))) (mvT hZ (hw _ (List.mem_of_getElem? (i := 3) rfl))) (mvT hZ (hw _ (List.mem_of_getElem? (i := 4) rfl))) (by decide) (backOf (W := 0) (rm1 l Z a0 hw [] b5 (1 : Int32) q4 (p1 &&& (7 : Int32)) T6.heap n0 (Nat.le_trans (Nat.le_trans Z0 E5.1) KQ6.1) B6q g_b5 (by decide)) hZ (hw _ (List.mem_of_getElem? (i := 4) rfl)) (hw _ (List.mem_of_getElem? (i := 3) rfl)) (by decide) (by decide)) (g := (mkF m 23 #[.val (.int p1), .val (.int p2), .val (.int p3), .val (.long q4), .second, .val (.int (p1 &&& (7 : Int32))), .val (.ref b5), .unset, .unset, .unset, .unset, .unset, .unset] [(.long q4), (.int (1 : Int32)), (.ref b5)])) rfl (by rw [hml]; rfl) (argsL := [(.ref b5), (.int (1 : Int32)), (.long q4)]) (rest := []) (lenOf pd_0_0 rfl) rfl (by show 2 * 0 + _ ≤ _; exact Nat.le_of_eq rfl) (hb hby at_23) (fun _ _ => ⟨rfl, rfl, (by decide : 1 + 0 ≤ _), (by decide : 7 + 0 ≤ _)⟩)
  dsimp only [Pt.U, Pt.locs, Pt.cells, Pt.slots] at X7 l7 y7 z7 st7 hQ7
  subst l7 y7 z7
  obtain ⟨rfl, N7q, KQ7', B7q⟩ := hQ7
  have N7 := Fr.app N6 N7q
  have KQ7 : Keep T6.heap T7.heap [b5] := KQ7'
  have K7 : Keep h0 T7.heap [] := K6.trans KQ7 (allS (Or.inr sz_b5) all0)
  -- pc 30: com/example/rosehip/rosehip/codec/BerReaderHasMorePinLaw.put by its contract rm1
  obtain ⟨_, _, ⟨T8, L8, k8, n8⟩, -, X8, ⟨Lc8, hQ8, l8, y8, z8⟩, st8⟩ := Jvm.LawKit.callS X7 hx (y := (⟨"com/example/rosehip/rosehip/codec/BerReaderHasMorePinLaw", "put", "([BIJ)V"⟩ : MethodName)) hown (mvT hZ (hw _ (List.mem_of_getElem? (i := 1) rfl))) (mvT hZ (hw _ (List.mem_of_getElem? (i := 2) rfl))) (mvT hZ (hw _ (List.mem_of_getElem? (i := 3) rfl))) (mvT hZ (hw _ (List.mem_of_getElem? (i := 4) rfl))) (by decide) (backOf (W := 0) (rm1 l Z a0 hw [] b5 (2 : Int32) q4 (p1 &&& (7 : Int32)) T7.heap n0 (Nat.le_trans (Nat.le_trans (Nat.le_trans Z0 E5.1) KQ6.1) KQ7.1) B7q g_b5 (by decide)) hZ (hw _ (List.mem_of_getElem? (i := 4) rfl)) (hw _ (List.mem_of_getElem? (i := 3) rfl)) (by decide) (by decide)) (g := (mkF m 30 #[.val (.int p1), .val (.int p2), .val (.int p3), .val (.long q4), .second, .val (.int (p1 &&& (7 : Int32))), .val (.ref b5), .unset, .unset, .unset, .unset, .unset, .unset] [(.long q4), (.int (2 : Int32)), (.ref b5)])) rfl (by rw [hml]; rfl) (argsL := [(.ref b5), (.int (2 : Int32)), (.long q4)]) (rest := []) (lenOf pd_0_0 rfl) rfl (by show 2 * 0 + _ ≤ _; exact Nat.le_of_eq rfl) (hb hby at_30) (fun _ _ => ⟨rfl, rfl, (by decide : 1 + 0 ≤ _), (by decide : 7 + 0 ≤ _)⟩)
  dsimp only [Pt.U, Pt.locs, Pt.cells, Pt.slots] at X8 l8 y8 z8 st8 hQ8
  subst l8 y8 z8
  obtain ⟨rfl, N8q, KQ8', B8q⟩ := hQ8
  have N8 := Fr.app N7 N8q
  have KQ8 : Keep T7.heap T8.heap [b5] := KQ8'
  have K8 : Keep h0 T8.heap [] := K7.trans KQ8 (allS (Or.inr sz_b5) all0)
  -- pc 37: com/example/rosehip/rosehip/codec/BerReaderHasMorePinLaw.put by its contract rm1
  obtain ⟨_, _, ⟨T9, L9, k9, n9⟩, -, X9, ⟨Lc9, hQ9, l9, y9, z9⟩, st9⟩ := Jvm.LawKit.callS X8 hx (y := (⟨"com/example/rosehip/rosehip/codec/BerReaderHasMorePinLaw", "put", "([BIJ)V"⟩ : MethodName)) hown (mvT hZ (hw _ (List.mem_of_getElem? (i := 1) rfl))) (mvT hZ (hw _ (List.mem_of_getElem? (i := 2) rfl))) (mvT hZ (hw _ (List.mem_of_getElem? (i := 3) rfl))) (mvT hZ (hw _ (List.mem_of_getElem? (i := 4) rfl))) (by decide) (backOf (W := 0) (rm1 l Z a0 hw [] b5 (3 : Int32) q4 (p1 &&& (7 : Int32)) T8.heap n0 (Nat.le_trans (Nat.le_trans (Nat.le_trans (Nat.le_trans Z0 E5.1) KQ6.1) KQ7.1) KQ8.1) B8q g_b5 (by decide)) hZ (hw _ (List.mem_of_getElem? (i := 4) rfl)) (hw _ (List.mem_of_getElem? (i := 3) rfl)) (by decide) (by decide)) (g := (mkF m 37 #[.val (.int p1), .val (.int p2), .val (.int p3), .val (.long q4), .second, .val (.int (p1 &&& (7 : Int32))), .val (.ref b5), .unset, .unset, .unset, .unset, .unset, .unset] [(.long q4), (.int (3 : Int32)), (.ref b5)])) rfl (by rw [hml]; rfl) (argsL := [(.ref b5), (.int (3 : Int32)), (.long q4)]) (rest := []) (lenOf pd_0_0 rfl) rfl (by show 2 * 0 + _ ≤ _; exact Nat.le_of_eq rfl) (hb hby at_37) (fun _ _ => ⟨rfl, rfl, (by decide : 1 + 0 ≤ _), (by decide : 7 + 0 ≤ _)⟩)
  dsimp only [Pt.U, Pt.locs, Pt.cells, Pt.slots] at X9 l9 y9 z9 st9 hQ9
  subst l9 y9 z9
  obtain ⟨rfl, N9q, KQ9', B9q⟩ := hQ9
  have N9 := Fr.app N8 N9q
  have KQ9 : Keep T8.heap T9.heap [b5] := KQ9'
  have K9 : Keep h0 T9.heap [] := K8.trans KQ9 (allS (Or.inr sz_b5) all0)
  -- pc 44: com/example/rosehip/rosehip/codec/BerReaderHasMorePinLaw.put by its contract rm1
  obtain ⟨_, _, ⟨T10, L10, k10, n10⟩, -, X10, ⟨Lc10, hQ10, l10, y10, z10⟩, st10⟩ := Jvm.LawKit.callS X9 hx (y := (⟨"com/example/rosehip/rosehip/codec/BerReaderHasMorePinLaw", "put", "([BIJ)V"⟩ : MethodName)) hown (mvT hZ (hw _ (List.mem_of_getElem? (i := 1) rfl))) (mvT hZ (hw _ (List.mem_of_getElem? (i := 2) rfl))) (mvT hZ (hw _ (List.mem_of_getElem? (i := 3) rfl))) (mvT hZ (hw _ (List.mem_of_getElem? (i := 4) rfl))) (by decide) (backOf (W := 0) (rm1 l Z a0 hw [] b5 (4 : Int32) q4 (p1 &&& (7 : Int32)) T9.heap n0 (Nat.le_trans (Nat.le_trans (Nat.le_trans (Nat.le_trans (Nat.le_trans Z0 E5.1) KQ6.1) KQ7.1) KQ8.1) KQ9.1) B9q g_b5 (by decide)) hZ (hw _ (List.mem_of_getElem? (i := 4) rfl)) (hw _ (List.mem_of_getElem? (i := 3) rfl)) (by decide) (by decide)) (g := (mkF m 44 #[.val (.int p1), .val (.int p2), .val (.int p3), .val (.long q4), .second, .val (.int (p1 &&& (7 : Int32))), .val (.ref b5), .unset, .unset, .unset, .unset, .unset, .unset] [(.long q4), (.int (4 : Int32)), (.ref b5)])) rfl (by rw [hml]; rfl) (argsL := [(.ref b5), (.int (4 : Int32)), (.long q4)]) (rest := []) (lenOf pd_0_0 rfl) rfl (by show 2 * 0 + _ ≤ _; exact Nat.le_of_eq rfl) (hb hby at_44) (fun _ _ => ⟨rfl, rfl, (by decide : 1 + 0 ≤ _), (by decide : 7 + 0 ≤ _)⟩)
  dsimp only [Pt.U, Pt.locs, Pt.cells, Pt.slots] at X10 l10 y10 z10 st10 hQ10
  subst l10 y10 z10
  obtain ⟨rfl, N10q, KQ10', B10q⟩ := hQ10
  have N10 := Fr.app N9 N10q
  have KQ10 : Keep T9.heap T10.heap [b5] := KQ10'
  have K10 : Keep h0 T10.heap [] := K9.trans KQ10 (allS (Or.inr sz_b5) all0)
  -- pc 51: com/example/rosehip/rosehip/codec/BerReaderHasMorePinLaw.put by its contract rm1
  obtain ⟨_, _, ⟨T11, L11, k11, n11⟩, -, X11, ⟨Lc11, hQ11, l11, y11, z11⟩, st11⟩ := Jvm.LawKit.callS X10 hx (y := (⟨"com/example/rosehip/rosehip/codec/BerReaderHasMorePinLaw", "put", "([BIJ)V"⟩ : MethodName)) hown (mvT hZ (hw _ (List.mem_of_getElem? (i := 1) rfl))) (mvT hZ (hw _ (List.mem_of_getElem? (i := 2) rfl))) (mvT hZ (hw _ (List.mem_of_getElem? (i := 3) rfl))) (mvT hZ (hw _ (List.mem_of_getElem? (i := 4) rfl))) (by decide) (backOf (W := 0) (rm1 l Z a0 hw [] b5 (5 : Int32) q4 (p1 &&& (7 : Int32)) T10.heap n0 (Nat.le_trans (Nat.le_trans (Nat.le_trans (Nat.le_trans (Nat.le_trans (Nat.le_trans Z0 E5.1) KQ6.1) KQ7.1) KQ8.1) KQ9.1) KQ10.1) B10q g_b5 (by decide)) hZ (hw _ (List.mem_of_getElem? (i := 4) rfl)) (hw _ (List.mem_of_getElem? (i := 3) rfl)) (by decide) (by decide)) (g := (mkF m 51 #[.val (.int p1), .val (.int p2), .val (.int p3), .val (.long q4), .second, .val (.int (p1 &&& (7 : Int32))), .val (.ref b5), .unset, .unset, .unset, .unset, .unset, .unset] [(.long q4), (.int (5 : Int32)), (.ref b5)])) rfl (by rw [hml]; rfl) (argsL := [(.ref b5), (.int (5 : Int32)), (.long q4)]) (rest := []) (lenOf pd_0_0 rfl) rfl (by show 2 * 0 + _ ≤ _; exact Nat.le_of_eq rfl) (hb hby at_51) (fun _ _ => ⟨rfl, rfl, (by decide : 1 + 0 ≤ _), (by decide : 7 + 0 ≤ _)⟩)
  dsimp only [Pt.U, Pt.locs, Pt.cells, Pt.slots] at X11 l11 y11 z11 st11 hQ11
  subst l11 y11 z11
  obtain ⟨rfl, N11q, KQ11', B11q⟩ := hQ11
  have N11 := Fr.app N10 N11q
  have KQ11 : Keep T10.heap T11.heap [b5] := KQ11'
  have K11 : Keep h0 T11.heap [] := K10.trans KQ11 (allS (Or.inr sz_b5) all0)
  -- pc 59: com/example/rosehip/rosehip/codec/BerReaderHasMorePinLaw.put by its contract rm1
  obtain ⟨_, _, ⟨T12, L12, k12, n12⟩, -, X12, ⟨Lc12, hQ12, l12, y12, z12⟩, st12⟩ := Jvm.LawKit.callS X11 hx (y := (⟨"com/example/rosehip/rosehip/codec/BerReaderHasMorePinLaw", "put", "([BIJ)V"⟩ : MethodName)) hown (mvT hZ (hw _ (List.mem_of_getElem? (i := 1) rfl))) (mvT hZ (hw _ (List.mem_of_getElem? (i := 2) rfl))) (mvT hZ (hw _ (List.mem_of_getElem? (i := 3) rfl))) (mvT hZ (hw _ (List.mem_of_getElem? (i := 4) rfl))) (by decide) (backOf (W := 0) (rm1 l Z a0 hw [] b5 (6 : Int32) q4 (p1 &&& (7 : Int32)) T11.heap n0 (Nat.le_trans (Nat.le_trans (Nat.le_trans (Nat.le_trans (Nat.le_trans (Nat.le_trans (Nat.le_trans Z0 E5.1) KQ6.1) KQ7.1) KQ8.1) KQ9.1) KQ10.1) KQ11.1) B11q g_b5 (by decide)) hZ (hw _ (List.mem_of_getElem? (i := 4) rfl)) (hw _ (List.mem_of_getElem? (i := 3) rfl)) (by decide) (by decide)) (g := (mkF m 59 #[.val (.int p1), .val (.int p2), .val (.int p3), .val (.long q4), .second, .val (.int (p1 &&& (7 : Int32))), .val (.ref b5), .unset, .unset, .unset, .unset, .unset, .unset] [(.long q4), (.int (6 : Int32)), (.ref b5)])) rfl (by rw [hml]; rfl) (argsL := [(.ref b5), (.int (6 : Int32)), (.long q4)]) (rest := []) (lenOf pd_0_0 rfl) rfl (by show 2 * 0 + _ ≤ _; exact Nat.le_of_eq rfl) (hb hby at_59) (fun _ _ => ⟨rfl, rfl, (by decide : 1 + 0 ≤ _), (by decide : 7 + 0 ≤ _)⟩)
  dsimp only [Pt.U, Pt.locs, Pt.cells, Pt.slots] at X12 l12 y12 z12 st12 hQ12
  subst l12 y12 z12
  obtain ⟨rfl, N12q, KQ12', B12q⟩ := hQ12
  have N12 := Fr.app N11 N12q
  have KQ12 : Keep T11.heap T12.heap [b5] := KQ12'
  have K12 : Keep h0 T12.heap [] := K11.trans KQ12 (allS (Or.inr sz_b5) all0)
  obtain ⟨T13, h13, X13, e13, E13, A13, D13, -, st13⟩ := newO X12 hx hZ hown (hw _ (List.mem_of_getElem? (i := 5) rfl)) (hw _ (List.mem_of_getElem? (i := 6) rfl)) (hw _ (List.mem_of_getElem? (i := 7) rfl)) rfl (g := (mkF m 62 #[.val (.int p1), .val (.int p2), .val (.int p3), .val (.long q4), .second, .val (.int (p1 &&& (7 : Int32))), .val (.ref b5), .unset, .unset, .unset, .unset, .unset, .unset] [])) rfl (hb hby at_62) (by decide) (by decide)
  obtain ⟨b13, g13⟩ : ∃ z, z = T12.heap.size := ⟨_, rfl⟩      -- the fresh object's address
  rw [← g13] at A13 D13 st13      -- A13 : Exa Z h13 b13 "com/example/rosehip/rosehip/codec/BerReader"; E13 : Ext T12.heap h13 (carries every older fact: .ext E13)
  have F_bytes_b13 : Fld Z h13 b13 "com/example/rosehip/rosehip/codec/BerReader" "bytes" "[B" .null := D13 (Or.inr (hw _ (List.mem_of_getElem? (i := 18) rfl))) (ty := (.array .byte)) (by decide)
  have F_position_b13 : Fld Z h13 b13 "com/example/rosehip/rosehip/codec/BerReader" "position" "I" (.int (0 : Int32)) := D13 (Or.inl (hw _ (List.mem_of_getElem? (i := 20) rfl))) (ty := .int) (by decide)
  have F_limit_b13 : Fld Z h13 b13 "com/example/rosehip/rosehip/codec/BerReader" "limit" "I" (.int (0 : Int32)) := D13 (Or.inr (hw _ (List.mem_of_getElem? (i := 22) rfl))) (ty := .int) (by decide)
  have E_b13 := A13
  have g_b13 : n0 ≤ b13 := Nat.le_trans (Nat.le_trans (Nat.le_trans (Nat.le_trans (Nat.le_trans (Nat.le_trans (Nat.le_trans (Nat.le_trans (Nat.le_trans Z0 E5.1) KQ6.1) KQ7.1) KQ8.1) KQ9.1) KQ10.1) KQ11.1) KQ12.1) (Nat.le_of_eq g13.symm)
  have sz_b13 : h0.size ≤ b13 := (Nat.le_trans K12.1 (Nat.le_of_eq g13.symm))
  have K13 : Keep h0 h13 [] := K12.ext E13
  -- pc 68: the constructor of com/example/rosehip/rosehip/codec/BerReader by its contract rm2
  obtain ⟨_, _, ⟨T14, L14, k14, n14⟩, -, X14, ⟨Lc14, hQ14, l14, y14, z14⟩, st14⟩ := X13.specialBack hx (y := (⟨"com/example/rosehip/rosehip/codec/BerReader", "<init>", "([B)V"⟩ : MethodName)) rfl hown (mvT hZ (hw _ (List.mem_of_getElem? (i := 8) rfl))) (mvT hZ (hw _ (List.mem_of_getElem? (i := 9) rfl))) (mvT hZ (hw _ (List.mem_of_getElem? (i := 10) rfl))) (by decide) (backOf (W := 1) (rm2 l Z a0 hw [] b13 b5 (p1 &&& (7 : Int32)) .null (.int (0 : Int32)) (.int (0 : Int32)) h13 n0 (Nat.le_trans (Nat.le_trans (Nat.le_trans (Nat.le_trans (Nat.le_trans (Nat.le_trans (Nat.le_trans (Nat.le_trans (Nat.le_trans Z0 E5.1) KQ6.1) KQ7.1) KQ8.1) KQ9.1) KQ10.1) KQ11.1) KQ12.1) E13.1) E_b13 F_bytes_b13 g_b13 F_position_b13 F_limit_b13 (B12q.ext E13)) hZ (hw _ (List.mem_of_getElem? (i := 10) rfl)) (hw _ (List.mem_of_getElem? (i := 7) rfl)) (by decide) (by decide)) (g := (mkF m 68 #[.val (.int p1), .val (.int p2), .val (.int p3), .val (.long q4), .second, .val (.int (p1 &&& (7 : Int32))), .val (.ref b5), .unset, .unset, .unset, .unset, .unset, .unset] [(.ref b5), (.ref b13), (.ref b13)])) rfl (by rw [hml]; rfl) (Steps.refl _) (a := b13) (argsL := [(.ref b5)]) (rest := [(.ref b13)]) (lenOf pd_0_1 rfl) rfl (by show 2 * 0 + _ ≤ _; exact Nat.le_of_eq rfl) (hb hby at_68) (fun _ _ => ⟨rfl, e13, (by decide : 2 + 0 ≤ _), (by decide : 10 + 0 ≤ _)⟩)
  dsimp only [Pt.U, Pt.locs, Pt.cells, Pt.slots] at X14 l14 y14 z14 st14 hQ14
  subst l14 y14 z14
  obtain ⟨rfl, N14q, KQ14', E14q, Fb14q, Fp14q, Fl14q⟩ := hQ14
  have N14 := Fr.app N12 N14q
  have KQ14 : Keep h13 T14.heap [b13] := KQ14'
  have K14 : Keep h0 T14.heap [] := K13.trans KQ14 (allS (Or.inr sz_b13) all0)
  -- pc 75: com/example/rosehip/rosehip/codec/BerReader.hasMore by the contract of the body that the receiver's class selects, rm5
  obtain ⟨cq15, kq15, q15a, q15b, q15c⟩ := isOf hZ rfl E14q
  obtain ⟨_, _, ⟨T15, L15, k15, n15⟩, -, X15, ⟨Lc15, hQ15, l15, y15, z15⟩, st15⟩ := X14.virtualBack hx (y := (⟨"com/example/rosehip/rosehip/codec/BerReader", "hasMore", "()Z"⟩ : MethodName)) (z := (⟨"com/example/rosehip/rosehip/codec/BerReader", "hasMore", "()Z"⟩ : MethodName)) hown (mvT hZ (hw _ (List.mem_of_getElem? (i := 23) rfl))) (mvT hZ (hw _ (List.mem_of_getElem? (i := 24) rfl))) (notFace_of_selects (args := #[]) (mvT hZ (hw _ (List.mem_of_getElem? (i := 26) rfl)))) (mvT hZ (hw _ (List.mem_of_getElem? (i := 26) rfl))) (mvT hZ (hw _ (List.mem_of_getElem? (i := 25) rfl))) (by decide) (backOf (W := 0) (rm5 l Z a0 hw [] b13 (0 : Int32) (p1 &&& (7 : Int32)) T14.heap n0 (Nat.le_trans (Nat.le_trans (Nat.le_trans (Nat.le_trans (Nat.le_trans (Nat.le_trans (Nat.le_trans (Nat.le_trans (Nat.le_trans (Nat.le_trans Z0 E5.1) KQ6.1) KQ7.1) KQ8.1) KQ9.1) KQ10.1) KQ11.1) KQ12.1) E13.1) KQ14.1) Fp14q Fl14q) hZ (hw _ (List.mem_of_getElem? (i := 27) rfl)) (hw _ (List.mem_of_getElem? (i := 7) rfl)) (by decide) (by decide)) q15a q15c (g := (mkF m 75 #[.val (.int p1), .val (.int p2), .val (.int p3), .val (.long q4), .second, .val (.int (p1 &&& (7 : Int32))), .val (.ref b5), .val (.ref b13), .unset, .unset, .unset, .unset, .unset] [(.ref b13)])) rfl (by rw [hml]; rfl) (Steps.refl _) (argsL := []) (rest := []) (lenOf pd_0_4 rfl) rfl (by show 2 * 0 + _ ≤ _; exact Nat.le_of_eq rfl) (hb hby at_75) (fun _ _ => ⟨rfl, rfl, (by decide : 2 + 0 ≤ _), (by decide : 10 + 0 ≤ _)⟩)
  dsimp only [Pt.U, Pt.locs, Pt.cells, Pt.slots] at X15 l15 y15 z15 st15 hQ15
  subst l15 y15 z15
  obtain ⟨rfl, N15q, eh15⟩ := hQ15
  have N15 := Fr.app N14 N15q
  -- pc 99: com/example/rosehip/rosehip/codec/BerReader.hasMore by the contract of the body that the receiver's class selects, rm5
  obtain ⟨cq16, kq16, q16a, q16b, q16c⟩ := isOf hZ eh15 E14q
  obtain ⟨_, _, ⟨T16, L16, k16, n16⟩, -, X16, ⟨Lc16, hQ16, l16, y16, z16⟩, st16⟩ := X15.virtualBack hx (y := (⟨"com/example/rosehip/rosehip/codec/BerReader", "hasMore", "()Z"⟩ : MethodName)) (z := (⟨"com/example/rosehip/rosehip/codec/BerReader", "hasMore", "()Z"⟩ : MethodName)) hown (mvT hZ (hw _ (List.mem_of_getElem? (i := 23) rfl))) (mvT hZ (hw _ (List.mem_of_getElem? (i := 24) rfl))) (notFace_of_selects (args := #[]) (mvT hZ (hw _ (List.mem_of_getElem? (i := 26) rfl)))) (mvT hZ (hw _ (List.mem_of_getElem? (i := 26) rfl))) (mvT hZ (hw _ (List.mem_of_getElem? (i := 25) rfl))) (by decide) (backOf (W := 0) (rm5 l Z a0 hw [] b13 (0 : Int32) (p1 &&& (7 : Int32)) T14.heap n0 (Nat.le_trans (Nat.le_trans (Nat.le_trans (Nat.le_trans (Nat.le_trans (Nat.le_trans (Nat.le_trans (Nat.le_trans (Nat.le_trans (Nat.le_trans Z0 E5.1) KQ6.1) KQ7.1) KQ8.1) KQ9.1) KQ10.1) KQ11.1) KQ12.1) E13.1) KQ14.1) Fp14q Fl14q) hZ (hw _ (List.mem_of_getElem? (i := 27) rfl)) (hw _ (List.mem_of_getElem? (i := 7) rfl)) (by decide) (by decide)) q16a q16c (g := (mkF m 99 #[.val (.int p1), .val (.int p2), .val (.int p3), .val (.long q4), .second, .val (.int (p1 &&& (7 : Int32))), .val (.ref b5), .val (.ref b13), .val (.int (fv5 (0 : Int32) (p1 &&& (7 : Int32)))), .unset, .unset, .unset, .unset] [(.ref b13)])) rfl (by rw [hml]; rfl) (Steps.refl _) (argsL := []) (rest := []) (lenOf pd_0_4 rfl) rfl (by show 2 * 0 + _ ≤ _; exact Nat.le_of_eq rfl) (hb hby at_99) (fun _ _ => ⟨rfl, eh15, (by decide : 2 + 0 ≤ _), (by decide : 10 + 0 ≤ _)⟩)
  dsimp only [Pt.U, Pt.locs, Pt.cells, Pt.slots] at X16 l16 y16 z16 st16 hQ16
  subst l16 y16 z16
  obtain ⟨rfl, N16q, eh16⟩ := hQ16
  have N16 := Fr.app N15 N16q
  obtain ⟨fs, hr, hrun, hended, hW, hsame⟩ := X16.leave (v := some (.int (1 : Int32))) (fun h => by rw [Bd.returns] at h; cases h)
  refine ⟨_, _, pre0 _ ?_, hrun, hended, _, _, rfl, ?_, ⟨_, rfl⟩, hW, hsame.mono (by decide) (by decide)⟩
  -- 4. STEPS
  · show Steps p.tables e below (s₁.setTop (mkF m 0 #[.val (.int p1), .val (.int p2), .val (.int p3), .val (.long q4), .second, .unset, .unset, .unset, .unset, .unset, .unset, .unset, .unset] [])) _
    refine XS.iloadN X0.here hx rfl (hb hby at_0) rfl ?_
    show Steps p.tables e below (s₁.setTop (mkF m 1 #[.val (.int p1), .val (.int p2), .val (.int p3), .val (.long q4), .second, .unset, .unset, .unset, .unset, .unset, .unset, .unset, .unset] [(.int p1)])) _
    refine XS.bipush X0.here hx rfl (hb hby at_1) ?_
    show Steps p.tables e below (s₁.setTop (mkF m 3 #[.val (.int p1), .val (.int p2), .val (.int p3), .val (.long q4), .second, .unset, .unset, .unset, .unset, .unset, .unset, .unset, .unset] [(.int (7 : Int32)), (.int p1)])) _
    refine XS.iand X0.here hx rfl (hb hby at_3) rfl ?_
    show Steps p.tables e below (s₁.setTop (mkF m 4 #[.val (.int p1), .val (.int p2), .val (.int p3), .val (.long q4), .second, .unset, .unset, .unset, .unset, .unset, .unset, .unset, .unset] [(.int (p1 &&& (7 : Int32)))])) _
    refine XS.istore X0.here hx rfl (hb hby at_4) rfl (l' := #[.val (.int p1), .val (.int p2), .val (.int p3), .val (.long q4), .second, .val (.int (p1 &&& (7 : Int32))), .unset, .unset, .unset, .unset, .unset, .unset, .unset]) rfl ?_
    show Steps p.tables e below (s₁.setTop (mkF m 6 #[.val (.int p1), .val (.int p2), .val (.int p3), .val (.long q4), .second, .val (.int (p1 &&& (7 : Int32))), .unset, .unset, .unset, .unset, .unset, .unset, .unset] [])) _
    refine XS.iload X0.here hx rfl (hb hby at_6) rfl ?_
    show Steps p.tables e below (s₁.setTop (mkF m 8 #[.val (.int p1), .val (.int p2), .val (.int p3), .val (.long q4), .second, .val (.int (p1 &&& (7 : Int32))), .unset, .unset, .unset, .unset, .unset, .unset, .unset] [(.int (p1 &&& (7 : Int32)))])) _
    refine st5 _ ?_
    show Steps p.tables e below (T5.setTop (mkF m 10 #[.val (.int p1), .val (.int p2), .val (.int p3), .val (.long q4), .second, .val (.int (p1 &&& (7 : Int32))), .unset, .unset, .unset, .unset, .unset, .unset, .unset] [(.ref b5)])) _
    refine XS.astore X5.here hx rfl (hb hby at_10) rfl rfl (l' := #[.val (.int p1), .val (.int p2), .val (.int p3), .val (.long q4), .second, .val (.int (p1 &&& (7 : Int32))), .val (.ref b5), .unset, .unset, .unset, .unset, .unset, .unset]) rfl ?_
    show Steps p.tables e below (T5.setTop (mkF m 12 #[.val (.int p1), .val (.int p2), .val (.int p3), .val (.long q4), .second, .val (.int (p1 &&& (7 : Int32))), .val (.ref b5), .unset, .unset, .unset, .unset, .unset, .unset] [])) _
    refine XS.aload X5.here hx rfl (hb hby at_12) rfl rfl ?_
    show Steps p.tables e below (T5.setTop (mkF m 14 #[.val (.int p1), .val (.int p2), .val (.int p3), .val (.long q4), .second, .val (.int (p1 &&& (7 : Int32))), .val (.ref b5), .unset, .unset, .unset, .unset, .unset, .unset] [(.ref b5)])) _
    refine XS.iconst X5.here hx rfl (hb hby at_14) ?_
    show Steps p.tables e below (T5.setTop (mkF m 15 #[.val (.int p1), .val (.int p2), .val (.int p3), .val (.long q4), .second, .val (.int (p1 &&& (7 : Int32))), .val (.ref b5), .unset, .unset, .unset, .unset, .unset, .unset] [(.int (0 : Int32)), (.ref b5)])) _
    refine XS.lloadN X5.here hx rfl (hb hby at_15) rfl ?_
    show Steps p.tables e below (T5.setTop (mkF m 16 #[.val (.int p1), .val (.int p2), .val (.int p3), .val (.long q4), .second, .val (.int (p1 &&& (7 : Int32))), .val (.ref b5), .unset, .unset, .unset, .unset, .unset, .unset] [(.long q4), (.int (0 : Int32)), (.ref b5)])) _
    refine st6 _ ?_
    show Steps p.tables e below (T6.setTop (mkF m 19 #[.val (.int p1), .val (.int p2), .val (.int p3), .val (.long q4), .second, .val (.int (p1 &&& (7 : Int32))), .val (.ref b5), .unset, .unset, .unset, .unset, .unset, .unset] [])) _
    refine XS.aload X6.here hx rfl (hb hby at_19) rfl rfl ?_
    show Steps p.tables e below (T6.setTop (mkF m 21 #[.val (.int p1), .val (.int p2), .val (.int p3), .val (.long q4), .second, .val (.int (p1 &&& (7 : Int32))), .val (.ref b5), .unset, .unset, .unset, .unset, .unset, .unset] [(.ref b5)])) _
    refine XS.iconst X6.here hx rfl (hb hby at_21) ?_
    show Steps p.tables e below (T6.setTop (mkF m 22 #[.val (.int p1), .val (.int p2), .val (.int p3), .val (.long q4), .second, .val (.int (p1 &&& (7 : Int32))), .val (.ref b5), .unset, .unset, .unset, .unset, .unset, .unset] [(.int (1 : Int32)), (.ref b5)])) _
    refine XS.lloadN X6.here hx rfl (hb hby at_22) rfl ?_
    show Steps p.tables e below (T6.setTop (mkF m 23 #[.val (.int p1), .val (.int p2), .val (.int p3), .val (.long q4), .second, .val (.int (p1 &&& (7 : Int32))), .val (.ref b5), .unset, .unset, .unset, .unset, .unset, .unset] [(.long q4), (.int (1 : Int32)), (.ref b5)])) _
    refine st7 _ ?_
    show Steps p.tables e below (T7.setTop (mkF m 26 #[.val (.int p1), .val (.int p2), .val (.int p3), .val (.long q4), .second, .val (.int (p1 &&& (7 : Int32))), .val (.ref b5), .unset, .unset, .unset, .unset, .unset, .unset] [])) _
    refine XS.aload X7.here hx rfl (hb hby at_26) rfl rfl ?_
    show Steps p.tables e below (T7.setTop (mkF m 28 #[.val (.int p1), .val (.int p2), .val (.int p3), .val (.long q4), .second, .val (.int (p1 &&& (7 : Int32))), .val (.ref b5), .unset, .unset, .unset, .unset, .unset, .unset] [(.ref b5)])) _
    refine XS.iconst X7.here hx rfl (hb hby at_28) ?_
    show Steps p.tables e below (T7.setTop (mkF m 29 #[.val (.int p1), .val (.int p2), .val (.int p3), .val (.long q4), .second, .val (.int (p1 &&& (7 : Int32))), .val (.ref b5), .unset, .unset, .unset, .unset, .unset, .unset] [(.int (2 : Int32)), (.ref b5)])) _
    refine XS.lloadN X7.here hx rfl (hb hby at_29) rfl ?_
    show Steps p.tables e below (T7.setTop (mkF m 30 #[.val (.int p1), .val (.int p2), .val (.int p3), .val (.long q4), .second, .val (.int (p1 &&& (7 : Int32))), .val (.ref b5), .unset, .unset, .unset, .unset, .unset, .unset] [(.long q4), (.int (2 : Int32)), (.ref b5)])) _
    refine st8 _ ?_
    show Steps p.tables e below (T8.setTop (mkF m 33 #[.val (.int p1), .val (.int p2), .val (.int p3), .val (.long q4), .second, .val (.int (p1 &&& (7 : Int32))), .val (.ref b5), .unset, .unset, .unset, .unset, .unset, .unset] [])) _
    refine XS.aload X8.here hx rfl (hb hby at_33) rfl rfl ?_
    show Steps p.tables e below (T8.setTop (mkF m 35 #[.val (.int p1), .val (.int p2), .val (.int p3), .val (.long q4), .second, .val (.int (p1 &&& (7 : Int32))), .val (.ref b5), .unset, .unset, .unset, .unset, .unset, .unset] [(.ref b5)])) _
    refine XS.iconst X8.here hx rfl (hb hby at_35) ?_
    show Steps p.tables e below (T8.setTop (mkF m 36 #[.val (.int p1), .val (.int p2), .val (.int p3), .val (.long q4), .second, .val (.int (p1 &&& (7 : Int32))), .val (.ref b5), .unset, .unset, .unset, .unset, .unset, .unset] [(.int (3 : Int32)), (.ref b5)])) _
    refine XS.lloadN X8.here hx rfl (hb hby at_36) rfl ?_
    show Steps p.tables e below (T8.setTop (mkF m 37 #[.val (.int p1), .val (.int p2), .val (.int p3), .val (.long q4), .second, .val (.int (p1 &&& (7 : Int32))), .val (.ref b5), .unset, .unset, .unset, .unset, .unset, .unset] [(.long q4), (.int (3 : Int32)), (.ref b5)])) _
    refine st9 _ ?_
    show Steps p.tables e below (T9.setTop (mkF m 40 #[.val (.int p1), .val (.int p2), .val (.int p3), .val (.long q4), .second, .val (.int (p1 &&& (7 : Int32))), .val (.ref b5), .unset, .unset, .unset, .unset, .unset, .unset] [])) _
    refine XS.aload X9.here hx rfl (hb hby at_40) rfl rfl ?_
    show Steps p.tables e below (T9.setTop (mkF m 42 #[.val (.int p1), .val (.int p2), .val (.int p3), .val (.long q4), .second, .val (.int (p1 &&& (7 : Int32))), .val (.ref b5), .unset, .unset, .unset, .unset, .unset, .unset] [(.ref b5)])) _
    refine XS.iconst X9.here hx rfl (hb hby at_42) ?_
    show Steps p.tables e below (T9.setTop (mkF m 43 #[.val (.int p1), .val (.int p2), .val (.int p3), .val (.long q4), .second, .val (.int (p1 &&& (7 : Int32))), .val (.ref b5), .unset, .unset, .unset, .unset, .unset, .unset] [(.int (4 : Int32)), (.ref b5)])) _
    refine XS.lloadN X9.here hx rfl (hb hby at_43) rfl ?_
    show Steps p.tables e below (T9.setTop (mkF m 44 #[.val (.int p1), .val (.int p2), .val (.int p3), .val (.long q4), .second, .val (.int (p1 &&& (7 : Int32))), .val (.ref b5), .unset, .unset, .unset, .unset, .unset, .unset] [(.long q4), (.int (4 : Int32)), (.ref b5)])) _
    refine st10 _ ?_
    show Steps p.tables e below (T10.setTop (mkF m 47 #[.val (.int p1), .val (.int p2), .val (.int p3), .val (.long q4), .second, .val (.int (p1 &&& (7 : Int32))), .val (.ref b5), .unset, .unset, .unset, .unset, .unset, .unset] [])) _
    refine XS.aload X10.here hx rfl (hb hby at_47) rfl rfl ?_
    show Steps p.tables e below (T10.setTop (mkF m 49 #[.val (.int p1), .val (.int p2), .val (.int p3), .val (.long q4), .second, .val (.int (p1 &&& (7 : Int32))), .val (.ref b5), .unset, .unset, .unset, .unset, .unset, .unset] [(.ref b5)])) _
    refine XS.iconst X10.here hx rfl (hb hby at_49) ?_
    show Steps p.tables e below (T10.setTop (mkF m 50 #[.val (.int p1), .val (.int p2), .val (.int p3), .val (.long q4), .second, .val (.int (p1 &&& (7 : Int32))), .val (.ref b5), .unset, .unset, .unset, .unset, .unset, .unset] [(.int (5 : Int32)), (.ref b5)])) _
    refine XS.lloadN X10.here hx rfl (hb hby at_50) rfl ?_
    show Steps p.tables e below (T10.setTop (mkF m 51 #[.val (.int p1), .val (.int p2), .val (.int p3), .val (.long q4), .second, .val (.int (p1 &&& (7 : Int32))), .val (.ref b5), .unset, .unset, .unset, .unset, .unset, .unset] [(.long q4), (.int (5 : Int32)), (.ref b5)])) _
    refine st11 _ ?_
    show Steps p.tables e below (T11.setTop (mkF m 54 #[.val (.int p1), .val (.int p2), .val (.int p3), .val (.long q4), .second, .val (.int (p1 &&& (7 : Int32))), .val (.ref b5), .unset, .unset, .unset, .unset, .unset, .unset] [])) _
    refine XS.aload X11.here hx rfl (hb hby at_54) rfl rfl ?_
    show Steps p.tables e below (T11.setTop (mkF m 56 #[.val (.int p1), .val (.int p2), .val (.int p3), .val (.long q4), .second, .val (.int (p1 &&& (7 : Int32))), .val (.ref b5), .unset, .unset, .unset, .unset, .unset, .unset] [(.ref b5)])) _
    refine XS.bipush X11.here hx rfl (hb hby at_56) ?_
    show Steps p.tables e below (T11.setTop (mkF m 58 #[.val (.int p1), .val (.int p2), .val (.int p3), .val (.long q4), .second, .val (.int (p1 &&& (7 : Int32))), .val (.ref b5), .unset, .unset, .unset, .unset, .unset, .unset] [(.int (6 : Int32)), (.ref b5)])) _
    refine XS.lloadN X11.here hx rfl (hb hby at_58) rfl ?_
    show Steps p.tables e below (T11.setTop (mkF m 59 #[.val (.int p1), .val (.int p2), .val (.int p3), .val (.long q4), .second, .val (.int (p1 &&& (7 : Int32))), .val (.ref b5), .unset, .unset, .unset, .unset, .unset, .unset] [(.long q4), (.int (6 : Int32)), (.ref b5)])) _
    refine st12 _ ?_
    show Steps p.tables e below (T12.setTop (mkF m 62 #[.val (.int p1), .val (.int p2), .val (.int p3), .val (.long q4), .second, .val (.int (p1 &&& (7 : Int32))), .val (.ref b5), .unset, .unset, .unset, .unset, .unset, .unset] [])) _
    refine st13 _ ?_
    show Steps p.tables e below (T13.setTop (mkF m 65 #[.val (.int p1), .val (.int p2), .val (.int p3), .val (.long q4), .second, .val (.int (p1 &&& (7 : Int32))), .val (.ref b5), .unset, .unset, .unset, .unset, .unset, .unset] [(.ref b13)])) _
    refine XS.dup X13.here hx rfl (hb hby at_65) rfl rfl ?_
    show Steps p.tables e below (T13.setTop (mkF m 66 #[.val (.int p1), .val (.int p2), .val (.int p3), .val (.long q4), .second, .val (.int (p1 &&& (7 : Int32))), .val (.ref b5), .unset, .unset, .unset, .unset, .unset, .unset] [(.ref b13), (.ref b13)])) _
    refine XS.aload X13.here hx rfl (hb hby at_66) rfl rfl ?_
    show Steps p.tables e below (T13.setTop (mkF m 68 #[.val (.int p1), .val (.int p2), .val (.int p3), .val (.long q4), .second, .val (.int (p1 &&& (7 : Int32))), .val (.ref b5), .unset, .unset, .unset, .unset, .unset, .unset] [(.ref b5), (.ref b13), (.ref b13)])) _
    refine st14.trans ?_
    show Steps p.tables e below (T14.setTop (mkF m 71 #[.val (.int p1), .val (.int p2), .val (.int p3), .val (.long q4), .second, .val (.int (p1 &&& (7 : Int32))), .val (.ref b5), .unset, .unset, .unset, .unset, .unset, .unset] [(.ref b13)])) _
    refine XS.astore X14.here hx rfl (hb hby at_71) rfl rfl (l' := #[.val (.int p1), .val (.int p2), .val (.int p3), .val (.long q4), .second, .val (.int (p1 &&& (7 : Int32))), .val (.ref b5), .val (.ref b13), .unset, .unset, .unset, .unset, .unset]) rfl ?_
    show Steps p.tables e below (T14.setTop (mkF m 73 #[.val (.int p1), .val (.int p2), .val (.int p3), .val (.long q4), .second, .val (.int (p1 &&& (7 : Int32))), .val (.ref b5), .val (.ref b13), .unset, .unset, .unset, .unset, .unset] [])) _
    refine XS.aload X14.here hx rfl (hb hby at_73) rfl rfl ?_
    show Steps p.tables e below (T14.setTop (mkF m 75 #[.val (.int p1), .val (.int p2), .val (.int p3), .val (.long q4), .second, .val (.int (p1 &&& (7 : Int32))), .val (.ref b5), .val (.ref b13), .unset, .unset, .unset, .unset, .unset] [(.ref b13)])) _
    refine st15.trans ?_
    show Steps p.tables e below (T15.setTop (mkF m 78 #[.val (.int p1), .val (.int p2), .val (.int p3), .val (.long q4), .second, .val (.int (p1 &&& (7 : Int32))), .val (.ref b5), .val (.ref b13), .unset, .unset, .unset, .unset, .unset] [(.int (fv5 (0 : Int32) (p1 &&& (7 : Int32))))])) _
    refine XS.istore X15.here hx rfl (hb hby at_78) rfl (l' := #[.val (.int p1), .val (.int p2), .val (.int p3), .val (.long q4), .second, .val (.int (p1 &&& (7 : Int32))), .val (.ref b5), .val (.ref b13), .val (.int (fv5 (0 : Int32) (p1 &&& (7 : Int32)))), .unset, .unset, .unset, .unset]) rfl ?_
    show Steps p.tables e below (T15.setTop (mkF m 80 #[.val (.int p1), .val (.int p2), .val (.int p3), .val (.long q4), .second, .val (.int (p1 &&& (7 : Int32))), .val (.ref b5), .val (.ref b13), .val (.int (fv5 (0 : Int32) (p1 &&& (7 : Int32)))), .unset, .unset, .unset, .unset] [])) _
    refine XS.iload X15.here hx rfl (hb hby at_80) rfl ?_
    show Steps p.tables e below (T15.setTop (mkF m 82 #[.val (.int p1), .val (.int p2), .val (.int p3), .val (.long q4), .second, .val (.int (p1 &&& (7 : Int32))), .val (.ref b5), .val (.ref b13), .val (.int (fv5 (0 : Int32) (p1 &&& (7 : Int32)))), .unset, .unset, .unset, .unset] [(.int (fv5 (0 : Int32) (p1 &&& (7 : Int32))))])) _
    refine XS.iload X15.here hx rfl (hb hby at_82) rfl ?_
    show Steps p.tables e below (T15.setTop (mkF m 84 #[.val (.int p1), .val (.int p2), .val (.int p3), .val (.long q4), .second, .val (.int (p1 &&& (7 : Int32))), .val (.ref b5), .val (.ref b13), .val (.int (fv5 (0 : Int32) (p1 &&& (7 : Int32)))), .unset, .unset, .unset, .unset] [(.int (p1 &&& (7 : Int32))), (.int (fv5 (0 : Int32) (p1 &&& (7 : Int32))))])) _
    refine XS.ifNo X15.here hx rfl (hb hby at_84) rfl ((if0 _ _).trans (tlt hc84).2.2.2) ?_
    show Steps p.tables e below (T15.setTop (mkF m 87 #[.val (.int p1), .val (.int p2), .val (.int p3), .val (.long q4), .second, .val (.int (p1 &&& (7 : Int32))), .val (.ref b5), .val (.ref b13), .val (.int (fv5 (0 : Int32) (p1 &&& (7 : Int32)))), .unset, .unset, .unset, .unset] [(.int (fv5 (0 : Int32) (p1 &&& (7 : Int32))))])) _
    refine XS.iconst X15.here hx rfl (hb hby at_87) ?_
    show Steps p.tables e below (T15.setTop (mkF m 88 #[.val (.int p1), .val (.int p2), .val (.int p3), .val (.long q4), .second, .val (.int (p1 &&& (7 : Int32))), .val (.ref b5), .val (.ref b13), .val (.int (fv5 (0 : Int32) (p1 &&& (7 : Int32)))), .unset, .unset, .unset, .unset] [(.int (1 : Int32)), (.int (fv5 (0 : Int32) (p1 &&& (7 : Int32))))])) _
    refine XS.goto X15.here hx rfl (pc0 := 88) (pc' := 92) rfl (hb hby at_88) (by decide) (by decide) ?_
    show Steps p.tables e below (T15.setTop (mkF m 92 #[.val (.int p1), .val (.int p2), .val (.int p3), .val (.long q4), .second, .val (.int (p1 &&& (7 : Int32))), .val (.ref b5), .val (.ref b13), .val (.int (fv5 (0 : Int32) (p1 &&& (7 : Int32)))), .unset, .unset, .unset, .unset] [(.int (1 : Int32)), (.int (fv5 (0 : Int32) (p1 &&& (7 : Int32))))])) _
    refine XS.icmpYes X15.here hx rfl (pc0 := 92) (pc' := 97) rfl (hb hby at_92) rfl (teq hc92).1 (by decide) (by decide) ?_
    show Steps p.tables e below (T15.setTop (mkF m 97 #[.val (.int p1), .val (.int p2), .val (.int p3), .val (.long q4), .second, .val (.int (p1 &&& (7 : Int32))), .val (.ref b5), .val (.ref b13), .val (.int (fv5 (0 : Int32) (p1 &&& (7 : Int32)))), .unset, .unset, .unset, .unset] [])) _
    refine XS.aload X15.here hx rfl (hb hby at_97) rfl rfl ?_
    show Steps p.tables e below (T15.setTop (mkF m 99 #[.val (.int p1), .val (.int p2), .val (.int p3), .val (.long q4), .second, .val (.int (p1 &&& (7 : Int32))), .val (.ref b5), .val (.ref b13), .val (.int (fv5 (0 : Int32) (p1 &&& (7 : Int32)))), .unset, .unset, .unset, .unset] [(.ref b13)])) _
    refine st16.trans ?_
    show Steps p.tables e below (T16.setTop (mkF m 102 #[.val (.int p1), .val (.int p2), .val (.int p3), .val (.long q4), .second, .val (.int (p1 &&& (7 : Int32))), .val (.ref b5), .val (.ref b13), .val (.int (fv5 (0 : Int32) (p1 &&& (7 : Int32)))), .unset, .unset, .unset, .unset] [(.int (fv5 (0 : Int32) (p1 &&& (7 : Int32))))])) _
    refine XS.iload X16.here hx rfl (hb hby at_102) rfl ?_
    show Steps p.tables e below (T16.setTop (mkF m 104 #[.val (.int p1), .val (.int p2), .val (.int p3), .val (.long q4), .second, .val (.int (p1 &&& (7 : Int32))), .val (.ref b5), .val (.ref b13), .val (.int (fv5 (0 : Int32) (p1 &&& (7 : Int32)))), .unset, .unset, .unset, .unset] [(.int (fv5 (0 : Int32) (p1 &&& (7 : Int32)))), (.int (fv5 (0 : Int32) (p1 &&& (7 : Int32))))])) _
    refine XS.icmpYes X16.here hx rfl (pc0 := 104) (pc' := 109) rfl (hb hby at_104) rfl (teq (rfl : (fv5 (0 : Int32) (p1 &&& (7 : Int32))) = (fv5 (0 : Int32) (p1 &&& (7 : Int32))))).1 (by decide) (by decide) ?_
    show Steps p.tables e below (T16.setTop (mkF m 109 #[.val (.int p1), .val (.int p2), .val (.int p3), .val (.long q4), .second, .val (.int (p1 &&& (7 : Int32))), .val (.ref b5), .val (.ref b13), .val (.int (fv5 (0 : Int32) (p1 &&& (7 : Int32)))), .unset, .unset, .unset, .unset] [])) _
    refine XS.iload X16.here hx rfl (hb hby at_109) rfl ?_
    show Steps p.tables e below (T16.setTop (mkF m 111 #[.val (.int p1), .val (.int p2), .val (.int p3), .val (.long q4), .second, .val (.int (p1 &&& (7 : Int32))), .val (.ref b5), .val (.ref b13), .val (.int (fv5 (0 : Int32) (p1 &&& (7 : Int32)))), .unset, .unset, .unset, .unset] [(.int (p1 &&& (7 : Int32)))])) _
    refine XS.iconst X16.here hx rfl (hb hby at_111) ?_
    show Steps p.tables e below (T16.setTop (mkF m 112 #[.val (.int p1), .val (.int p2), .val (.int p3), .val (.long q4), .second, .val (.int (p1 &&& (7 : Int32))), .val (.ref b5), .val (.ref b13), .val (.int (fv5 (0 : Int32) (p1 &&& (7 : Int32)))), .unset, .unset, .unset, .unset] [(.int (2 : Int32)), (.int (p1 &&& (7 : Int32)))])) _
    refine XS.icmpNo X16.here hx rfl (hb hby at_112) rfl (tlt hc112).2.1 ?_
    show Steps p.tables e below (T16.setTop (mkF m 115 #[.val (.int p1), .val (.int p2), .val (.int p3), .val (.long q4), .second, .val (.int (p1 &&& (7 : Int32))), .val (.ref b5), .val (.ref b13), .val (.int (fv5 (0 : Int32) (p1 &&& (7 : Int32)))), .unset, .unset, .unset, .unset] [])) _
    refine XS.iconst X16.here hx rfl (hb hby at_115) ?_
    show Steps p.tables e below (T16.setTop (mkF m 116 #[.val (.int p1), .val (.int p2), .val (.int p3), .val (.long q4), .second, .val (.int (p1 &&& (7 : Int32))), .val (.ref b5), .val (.ref b13), .val (.int (fv5 (0 : Int32) (p1 &&& (7 : Int32)))), .unset, .unset, .unset, .unset] [(.int (1 : Int32))])) _
    exact retN X16 hx (t := .boolean) Bd.returns (by simp) (hb hby at_116) hr
  · show QF n0 _ T16.heap _
    rw [eh16]
    exact ⟨rfl, N16, trivial⟩
theorem pd_0_5 : parseMethodDescriptor "()Lcom/example/rosehip/rosehip/codec/BerReader$Element;" = some ⟨[], some (.object "com/example/rosehip/rosehip/codec/BerReader$Element")⟩ := by decide +kernel
theorem pd_0_8 : parseMethodDescriptor "()I" = some ⟨[], some .int⟩ := by decide +kernel
set_option maxRecDepth 65536 in
set_option maxHeartbeats 40000000 in
theorem rm0_fttttfff (l : Launch) (Z : State) (a0 : Array Value) (hw : ∀ d ∈ tables_1, d.before a0 Z = true) (ws : List Jvm.Cond) (p1 : Int32) (p2 : Int32) (p3 : Int32) (q4 : Int64) (xx : Int32) (yy : Int32) (h0 : Heap) (n0 : Nat) (Z0 : n0 ≤ h0.size) (hng : ¬ (p1 &&& (7 : Int32)) < 0) (hcap : (p1 &&& (7 : Int32)).toNatClampNeg ≤ 7) (hxx : xx = nar .byte ((((((p3 &&& (2147483647 : Int32)) % (30 : Int32)) + (1 : Int32)) ||| ((((p3.toUInt32 >>> ((8 : Int32) &&& 31).toUInt32).toInt32) &&& (3 : Int32)) <<< ((6 : Int32) &&& 31))) ||| ((((p3.toUInt32 >>> ((10 : Int32) &&& 31).toUInt32).toInt32) &&& (1 : Int32)) <<< ((5 : Int32) &&& 31))).toInt8.toInt32)) (hyy : yy = nar .byte (((p2 &&& (2147483647 : Int32)) % ((p1 &&& (7 : Int32)) - (1 : Int32))).toInt8.toInt32)) (h0n : (0 : Int32) < (p1 &&& (7 : Int32))) (h2 : (1 : Int32) < (p1 &&& (7 : Int32))) (hid : ¬ (((xx &&& (255 : Int32)) &&& (31 : Int32)) = (31 : Int32))) (hln : (yy &&& (255 : Int32)) < (128 : Int32)) (hr4 : ¬ ((fv5 (0 : Int32) (p1 &&& (7 : Int32))) = (0 : Int32))) (hr66 : ¬ (((xx &&& (255 : Int32)) &&& (-33 : Int32)) = (0 : Int32))) (hr94 : ¬ ((lcmpW ((yy &&& (255 : Int32)).toInt64) (-1 : Int64)) = (0 : Int32))) (hr160 : ¬ ((0 : Int32) < (lcmpW ((yy &&& (255 : Int32)).toInt64) (((p1 &&& (7 : Int32)) - (((0 : Int32) + (1 : Int32)) + (1 : Int32))).toInt64)))) (hc84 : (0 : Int32) < (p1 &&& (7 : Int32))) (hc92 : (fv5 (0 : Int32) (p1 &&& (7 : Int32))) = (1 : Int32)) (hc112 : ¬ ((p1 &&& (7 : Int32)) < (2 : Int32))) (hnz125 : ¬ (((p1 &&& (7 : Int32)) - (1 : Int32)) = (0 : Int32))) (hnz134 : ¬ ((30 : Int32) = (0 : Int32))) (hc194 : ¬ (((2 : Int32) + ((p2 &&& (2147483647 : Int32)) % ((p1 &&& (7 : Int32)) - (1 : Int32)))) < (p1 &&& (7 : Int32)))) (hc202 : (fv5 (own_en yy) (p1 &&& (7 : Int32))) = (0 : Int32)) (hc214 : (own_en yy) = ((2 : Int32) + ((p2 &&& (2147483647 : Int32)) % ((p1 &&& (7 : Int32)) - (1 : Int32))))) :
    MetFree l x (head1 (Jvm.Cond.code x code maxLocals ret :: ws) room_1) (fun a U => a = #[(.int p1), (.int p2), (.int p3), (.long q4)] ∧ Z.Warmed39 U.vm ∧ U.heap = h0) (fun _ _ _ _ _ => True) (fun _ U o U' => ∃ v L, o = .returned v ∧ QF n0 v U'.heap L ∧ FrameEnd U o U' L room_1.cells room_1.slots) := by
  refine MetFree.of_bodySF (plainFor_of_name pn_0) hisR ?_
  intro p e s m args below meth c s₁ Bd hml0 hP hK
  obtain ⟨rfl, hZ, hh⟩ := hP
  have hx := Bd.exec
  have hby := Bd.bytes
  have hml : c.maxLocals = 13 := hml0
  have hown : s.vm.findClass "com/example/rosehip/rosehip/codec/BerReaderHasMorePinLaw" = some m.cls := findClass_of_methodNamed Bd.named
  have hnm := (name_of_methodNamed Bd.named Bd.method).1
  have X0 : Stand p l e room_1 s m #[(.int p1), (.int p2), (.int p3), (.long q4)] below meth c s₁ [] 0 0 := Stand.of_body Bd
  have e0 : s₁.heap = h0 := by rw [← hh, Bd.state]; rfl
  have N0 := Fr.nil n0
  have pre0 : ∀ t, Steps p.tables e below (s₁.setTop (mkF m 0 #[.val (.int p1), .val (.int p2), .val (.int p3), .val (.long q4), .second, .unset, .unset, .unset, .unset, .unset, .unset, .unset, .unset] [])) t → Steps p.tables e below (s₁.setTop (entryFrame m #[(.int p1), (.int p2), (.int p3), (.long q4)] maxLocals)) t := fun t k => castTop (ef_0 m p1 p2 p3 q4) k
  -- 3. LAWS
  obtain ⟨T5, h5, k5, X5, e5, E5, A5, st5⟩ := newP X0 hx hZ (hw _ (List.mem_of_getElem? (i := 0) rfl)) e0 (g := (mkF m 8 #[.val (.int p1), .val (.int p2), .val (.int p3), .val (.long q4), .second, .val (.int (p1 &&& (7 : Int32))), .unset, .unset, .unset, .unset, .unset, .unset, .unset] [(.int (p1 &&& (7 : Int32)))])) rfl (hb hby at_8) rfl hng (cap := 7) hcap (by decide) (by decide) (by decide)
  obtain ⟨b5, g5⟩ : ∃ z, z = h0.size := ⟨_, rfl⟩      -- the fresh array's address
  rw [← g5] at A5 st5
  have V_b5 := Arv.new A5 hng      -- Arv Z h5 b5 k5 .byte (p1 &&& (7 : Int32)) [] (its first value); a place must be in the list before it's written: Arv.pad with pad_rep
  have g_b5 : n0 ≤ b5 := Nat.le_trans Z0 (Nat.le_of_eq g5.symm)
  have sz_b5 : h0.size ≤ b5 := (Nat.le_trans (Keep.refl h0 []).1 (Nat.le_of_eq g5.symm))
  have K5 : Keep h0 h5 [] := (Keep.refl h0 []).ext E5
  -- newarray of at most cap (TODO_cap: the greatest length): this body's room: slots + cap; its caller's figures: cells + 1, slots + cap
  -- pc 16: com/example/rosehip/rosehip/codec/BerReaderHasMorePinLaw.put by its contract rm1
  obtain ⟨_, _, ⟨T6, L6, k6, n6⟩, -, X6, ⟨Lc6, hQ6, l6, y6, z6⟩, st6⟩ := Jvm.LawKit.callS X5 hx (y := (⟨"com/example/rosehip/rosehip/codec/BerReaderHasMorePinLaw", "put", "([BIJ)V"⟩ : MethodName)) hown (mvT hZ (hw _ (List.mem_of_getElem? (i := 1) rfl))) (mvT hZ (hw _ (List.mem_of_getElem? (i := 2) rfl))) (mvT hZ (hw _ (List.mem_of_getElem? (i := 3) rfl))) (mvT hZ (hw _ (List.mem_of_getElem? (i := 4) rfl))) (by decide) (backOf (W := 0) (rm1 l Z a0 hw [] b5 (0 : Int32) q4 (p1 &&& (7 : Int32)) h5 n0 (Nat.le_trans Z0 E5.1) (By.of V_b5) g_b5 (by decide)) hZ (hw _ (List.mem_of_getElem? (i := 4) rfl)) (hw _ (List.mem_of_getElem? (i := 3) rfl)) (by decide) (by decide)) (g := (mkF m 16 #[.val (.int p1), .val (.int p2), .val (.int p3), .val (.long q4), .second, .val (.int (p1 &&& (7 : Int32))), .val (.ref b5), .unset, .unset, .unset, .unset, .unset, .unset] [(.long q4), (.int (0 : Int32)), (.ref b5)])) rfl (by rw [hml]; rfl) (argsL := [(.ref b5), (.int (0 : Int32)), (.long q4)]) (rest := []) (lenOf pd_0_0 rfl) rfl (by show 2 * 0 + _ ≤ _; exact Nat.le_of_eq rfl) (hb hby at_16) (fun _ _ => ⟨rfl, e5, (by decide : 1 + 0 ≤ _), (by decide : 7 + 0 ≤ _)⟩)
  dsimp only [Pt.U, Pt.locs, Pt.cells, Pt.slots] at X6 l6 y6 z6 st6 hQ6
  subst l6 y6 z6
  obtain ⟨rfl, N6q, KQ6', B6q⟩ := hQ6
  have N6 := Fr.app N0 N6q
  have KQ6 : Keep h5 T6.heap [b5] := KQ6'
  have K6 : Keep h0 T6.heap [] := K5.trans KQ6 (allS (Or.inr sz_b5) all0)
  -- pc 23: com/example/rosehip/rosehip/codec/BerReaderHasMorePinLaw.put by its contract rm1
  obtain ⟨_, _, ⟨T7, L7, k7, n7⟩, -, X7, ⟨Lc7, hQ7, l7, y7, z7⟩, st7⟩ := Jvm.LawKit.callS X6 hx (y := (⟨"com/example/rosehip/rosehip/codec/BerReaderHasMorePinLaw", "put", "([BIJ)V"⟩ : MethodName)) hown (mvT hZ (hw _ (List.mem_of_getElem? (i := 1) rfl))) (mvT hZ (hw _ (List.mem_of_getElem? (i := 2) rfl))) (mvT hZ (hw _ (List.mem_of_getElem? (i := 3) rfl))) (mvT hZ (hw _ (List.mem_of_getElem? (i := 4) rfl))) (by decide) (backOf (W := 0) (rm1 l Z a0 hw [] b5 (1 : Int32) q4 (p1 &&& (7 : Int32)) T6.heap n0 (Nat.le_trans (Nat.le_trans Z0 E5.1) KQ6.1) B6q g_b5 (by decide)) hZ (hw _ (List.mem_of_getElem? (i := 4) rfl)) (hw _ (List.mem_of_getElem? (i := 3) rfl)) (by decide) (by decide)) (g := (mkF m 23 #[.val (.int p1), .val (.int p2), .val (.int p3), .val (.long q4), .second, .val (.int (p1 &&& (7 : Int32))), .val (.ref b5), .unset, .unset, .unset, .unset, .unset, .unset] [(.long q4), (.int (1 : Int32)), (.ref b5)])) rfl (by rw [hml]; rfl) (argsL := [(.ref b5), (.int (1 : Int32)), (.long q4)]) (rest := []) (lenOf pd_0_0 rfl) rfl (by show 2 * 0 + _ ≤ _; exact Nat.le_of_eq rfl) (hb hby at_23) (fun _ _ => ⟨rfl, rfl, (by decide : 1 + 0 ≤ _), (by decide : 7 + 0 ≤ _)⟩)
  dsimp only [Pt.U, Pt.locs, Pt.cells, Pt.slots] at X7 l7 y7 z7 st7 hQ7
  subst l7 y7 z7
  obtain ⟨rfl, N7q, KQ7', B7q⟩ := hQ7
  have N7 := Fr.app N6 N7q
  have KQ7 : Keep T6.heap T7.heap [b5] := KQ7'
  have K7 : Keep h0 T7.heap [] := K6.trans KQ7 (allS (Or.inr sz_b5) all0)
  -- pc 30: com/example/rosehip/rosehip/codec/BerReaderHasMorePinLaw.put by its contract rm1
  obtain ⟨_, _, ⟨T8, L8, k8, n8⟩, -, X8, ⟨Lc8, hQ8, l8, y8, z8⟩, st8⟩ := Jvm.LawKit.callS X7 hx (y := (⟨"com/example/rosehip/rosehip/codec/BerReaderHasMorePinLaw", "put", "([BIJ)V"⟩ : MethodName)) hown (mvT hZ (hw _ (List.mem_of_getElem? (i := 1) rfl))) (mvT hZ (hw _ (List.mem_of_getElem? (i := 2) rfl))) (mvT hZ (hw _ (List.mem_of_getElem? (i := 3) rfl))) (mvT hZ (hw _ (List.mem_of_getElem? (i := 4) rfl))) (by decide) (backOf (W := 0) (rm1 l Z a0 hw [] b5 (2 : Int32) q4 (p1 &&& (7 : Int32)) T7.heap n0 (Nat.le_trans (Nat.le_trans (Nat.le_trans Z0 E5.1) KQ6.1) KQ7.1) B7q g_b5 (by decide)) hZ (hw _ (List.mem_of_getElem? (i := 4) rfl)) (hw _ (List.mem_of_getElem? (i := 3) rfl)) (by decide) (by decide)) (g := (mkF m 30 #[.val (.int p1), .val (.int p2), .val (.int p3), .val (.long q4), .second, .val (.int (p1 &&& (7 : Int32))), .val (.ref b5), .unset, .unset, .unset, .unset, .unset, .unset] [(.long q4), (.int (2 : Int32)), (.ref b5)])) rfl (by rw [hml]; rfl) (argsL := [(.ref b5), (.int (2 : Int32)), (.long q4)]) (rest := []) (lenOf pd_0_0 rfl) rfl (by show 2 * 0 + _ ≤ _; exact Nat.le_of_eq rfl) (hb hby at_30) (fun _ _ => ⟨rfl, rfl, (by decide : 1 + 0 ≤ _), (by decide : 7 + 0 ≤ _)⟩)
  dsimp only [Pt.U, Pt.locs, Pt.cells, Pt.slots] at X8 l8 y8 z8 st8 hQ8
  subst l8 y8 z8
  obtain ⟨rfl, N8q, KQ8', B8q⟩ := hQ8
  have N8 := Fr.app N7 N8q
  have KQ8 : Keep T7.heap T8.heap [b5] := KQ8'
  have K8 : Keep h0 T8.heap [] := K7.trans KQ8 (allS (Or.inr sz_b5) all0)
  -- pc 37: com/example/rosehip/rosehip/codec/BerReaderHasMorePinLaw.put by its contract rm1
  obtain ⟨_, _, ⟨T9, L9, k9, n9⟩, -, X9, ⟨Lc9, hQ9, l9, y9, z9⟩, st9⟩ := Jvm.LawKit.callS X8 hx (y := (⟨"com/example/rosehip/rosehip/codec/BerReaderHasMorePinLaw", "put", "([BIJ)V"⟩ : MethodName)) hown (mvT hZ (hw _ (List.mem_of_getElem? (i := 1) rfl))) (mvT hZ (hw _ (List.mem_of_getElem? (i := 2) rfl))) (mvT hZ (hw _ (List.mem_of_getElem? (i := 3) rfl))) (mvT hZ (hw _ (List.mem_of_getElem? (i := 4) rfl))) (by decide) (backOf (W := 0) (rm1 l Z a0 hw [] b5 (3 : Int32) q4 (p1 &&& (7 : Int32)) T8.heap n0 (Nat.le_trans (Nat.le_trans (Nat.le_trans (Nat.le_trans Z0 E5.1) KQ6.1) KQ7.1) KQ8.1) B8q g_b5 (by decide)) hZ (hw _ (List.mem_of_getElem? (i := 4) rfl)) (hw _ (List.mem_of_getElem? (i := 3) rfl)) (by decide) (by decide)) (g := (mkF m 37 #[.val (.int p1), .val (.int p2), .val (.int p3), .val (.long q4), .second, .val (.int (p1 &&& (7 : Int32))), .val (.ref b5), .unset, .unset, .unset, .unset, .unset, .unset] [(.long q4), (.int (3 : Int32)), (.ref b5)])) rfl (by rw [hml]; rfl) (argsL := [(.ref b5), (.int (3 : Int32)), (.long q4)]) (rest := []) (lenOf pd_0_0 rfl) rfl (by show 2 * 0 + _ ≤ _; exact Nat.le_of_eq rfl) (hb hby at_37) (fun _ _ => ⟨rfl, rfl, (by decide : 1 + 0 ≤ _), (by decide : 7 + 0 ≤ _)⟩)
  dsimp only [Pt.U, Pt.locs, Pt.cells, Pt.slots] at X9 l9 y9 z9 st9 hQ9
  subst l9 y9 z9
  obtain ⟨rfl, N9q, KQ9', B9q⟩ := hQ9
  have N9 := Fr.app N8 N9q
  have KQ9 : Keep T8.heap T9.heap [b5] := KQ9'
  have K9 : Keep h0 T9.heap [] := K8.trans KQ9 (allS (Or.inr sz_b5) all0)
  -- pc 44: com/example/rosehip/rosehip/codec/BerReaderHasMorePinLaw.put by its contract rm1
  obtain ⟨_, _, ⟨T10, L10, k10, n10⟩, -, X10, ⟨Lc10, hQ10, l10, y10, z10⟩, st10⟩ := Jvm.LawKit.callS X9 hx (y := (⟨"com/example/rosehip/rosehip/codec/BerReaderHasMorePinLaw", "put", "([BIJ)V"⟩ : MethodName)) hown (mvT hZ (hw _ (List.mem_of_getElem? (i := 1) rfl))) (mvT hZ (hw _ (List.mem_of_getElem? (i := 2) rfl))) (mvT hZ (hw _ (List.mem_of_getElem? (i := 3) rfl))) (mvT hZ (hw _ (List.mem_of_getElem? (i := 4) rfl))) (by decide) (backOf (W := 0) (rm1 l Z a0 hw [] b5 (4 : Int32) q4 (p1 &&& (7 : Int32)) T9.heap n0 (Nat.le_trans (Nat.le_trans (Nat.le_trans (Nat.le_trans (Nat.le_trans Z0 E5.1) KQ6.1) KQ7.1) KQ8.1) KQ9.1) B9q g_b5 (by decide)) hZ (hw _ (List.mem_of_getElem? (i := 4) rfl)) (hw _ (List.mem_of_getElem? (i := 3) rfl)) (by decide) (by decide)) (g := (mkF m 44 #[.val (.int p1), .val (.int p2), .val (.int p3), .val (.long q4), .second, .val (.int (p1 &&& (7 : Int32))), .val (.ref b5), .unset, .unset, .unset, .unset, .unset, .unset] [(.long q4), (.int (4 : Int32)), (.ref b5)])) rfl (by rw [hml]; rfl) (argsL := [(.ref b5), (.int (4 : Int32)), (.long q4)]) (rest := []) (lenOf pd_0_0 rfl) rfl (by show 2 * 0 + _ ≤ _; exact Nat.le_of_eq rfl) (hb hby at_44) (fun _ _ => ⟨rfl, rfl, (by decide : 1 + 0 ≤ _), (by decide : 7 + 0 ≤ _)⟩)
  dsimp only [Pt.U, Pt.locs, Pt.cells, Pt.slots] at X10 l10 y10 z10 st10 hQ10
  subst l10 y10 z10
  obtain ⟨rfl, N10q, KQ10', B10q⟩ := hQ10
  have N10 := Fr.app N9 N10q
  have KQ10 : Keep T9.heap T10.heap [b5] := KQ10'
  have K10 : Keep h0 T10.heap [] := K9.trans KQ10 (allS (Or.inr sz_b5) all0)
  -- pc 51: com/example/rosehip/rosehip/codec/BerReaderHasMorePinLaw.put by its contract rm1
  obtain ⟨_, _, ⟨T11, L11, k11, n11⟩, -, X11, ⟨Lc11, hQ11, l11, y11, z11⟩, st11⟩ := Jvm.LawKit.callS X10 hx (y := (⟨"com/example/rosehip/rosehip/codec/BerReaderHasMorePinLaw", "put", "([BIJ)V"⟩ : MethodName)) hown (mvT hZ (hw _ (List.mem_of_getElem? (i := 1) rfl))) (mvT hZ (hw _ (List.mem_of_getElem? (i := 2) rfl))) (mvT hZ (hw _ (List.mem_of_getElem? (i := 3) rfl))) (mvT hZ (hw _ (List.mem_of_getElem? (i := 4) rfl))) (by decide) (backOf (W := 0) (rm1 l Z a0 hw [] b5 (5 : Int32) q4 (p1 &&& (7 : Int32)) T10.heap n0 (Nat.le_trans (Nat.le_trans (Nat.le_trans (Nat.le_trans (Nat.le_trans (Nat.le_trans Z0 E5.1) KQ6.1) KQ7.1) KQ8.1) KQ9.1) KQ10.1) B10q g_b5 (by decide)) hZ (hw _ (List.mem_of_getElem? (i := 4) rfl)) (hw _ (List.mem_of_getElem? (i := 3) rfl)) (by decide) (by decide)) (g := (mkF m 51 #[.val (.int p1), .val (.int p2), .val (.int p3), .val (.long q4), .second, .val (.int (p1 &&& (7 : Int32))), .val (.ref b5), .unset, .unset, .unset, .unset, .unset, .unset] [(.long q4), (.int (5 : Int32)), (.ref b5)])) rfl (by rw [hml]; rfl) (argsL := [(.ref b5), (.int (5 : Int32)), (.long q4)]) (rest := []) (lenOf pd_0_0 rfl) rfl (by show 2 * 0 + _ ≤ _; exact Nat.le_of_eq rfl) (hb hby at_51) (fun _ _ => ⟨rfl, rfl, (by decide : 1 + 0 ≤ _), (by decide : 7 + 0 ≤ _)⟩)
  dsimp only [Pt.U, Pt.locs, Pt.cells, Pt.slots] at X11 l11 y11 z11 st11 hQ11
  subst l11 y11 z11
  obtain ⟨rfl, N11q, KQ11', B11q⟩ := hQ11
  have N11 := Fr.app N10 N11q
  have KQ11 : Keep T10.heap T11.heap [b5] := KQ11'
  have K11 : Keep h0 T11.heap [] := K10.trans KQ11 (allS (Or.inr sz_b5) all0)
  -- pc 59: com/example/rosehip/rosehip/codec/BerReaderHasMorePinLaw.put by its contract rm1
  obtain ⟨_, _, ⟨T12, L12, k12, n12⟩, -, X12, ⟨Lc12, hQ12, l12, y12, z12⟩, st12⟩ := Jvm.LawKit.callS X11 hx (y := (⟨"com/example/rosehip/rosehip/codec/BerReaderHasMorePinLaw", "put", "([BIJ)V"⟩ : MethodName)) hown (mvT hZ (hw _ (List.mem_of_getElem? (i := 1) rfl))) (mvT hZ (hw _ (List.mem_of_getElem? (i := 2) rfl))) (mvT hZ (hw _ (List.mem_of_getElem? (i := 3) rfl))) (mvT hZ (hw _ (List.mem_of_getElem? (i := 4) rfl))) (by decide) (backOf (W := 0) (rm1 l Z a0 hw [] b5 (6 : Int32) q4 (p1 &&& (7 : Int32)) T11.heap n0 (Nat.le_trans (Nat.le_trans (Nat.le_trans (Nat.le_trans (Nat.le_trans (Nat.le_trans (Nat.le_trans Z0 E5.1) KQ6.1) KQ7.1) KQ8.1) KQ9.1) KQ10.1) KQ11.1) B11q g_b5 (by decide)) hZ (hw _ (List.mem_of_getElem? (i := 4) rfl)) (hw _ (List.mem_of_getElem? (i := 3) rfl)) (by decide) (by decide)) (g := (mkF m 59 #[.val (.int p1), .val (.int p2), .val (.int p3), .val (.long q4), .second, .val (.int (p1 &&& (7 : Int32))), .val (.ref b5), .unset, .unset, .unset, .unset, .unset, .unset] [(.long q4), (.int (6 : Int32)), (.ref b5)])) rfl (by rw [hml]; rfl) (argsL := [(.ref b5), (.int (6 : Int32)), (.long q4)]) (rest := []) (lenOf pd_0_0 rfl) rfl (by show 2 * 0 + _ ≤ _; exact Nat.le_of_eq rfl) (hb hby at_59) (fun _ _ => ⟨rfl, rfl, (by decide : 1 + 0 ≤ _), (by decide : 7 + 0 ≤ _)⟩)
  dsimp only [Pt.U, Pt.locs, Pt.cells, Pt.slots] at X12 l12 y12 z12 st12 hQ12
  subst l12 y12 z12
  obtain ⟨rfl, N12q, KQ12', B12q⟩ := hQ12
  have N12 := Fr.app N11 N12q
  have KQ12 : Keep T11.heap T12.heap [b5] := KQ12'
  have K12 : Keep h0 T12.heap [] := K11.trans KQ12 (allS (Or.inr sz_b5) all0)
  obtain ⟨T13, h13, X13, e13, E13, A13, D13, -, st13⟩ := newO X12 hx hZ hown (hw _ (List.mem_of_getElem? (i := 5) rfl)) (hw _ (List.mem_of_getElem? (i := 6) rfl)) (hw _ (List.mem_of_getElem? (i := 7) rfl)) rfl (g := (mkF m 62 #[.val (.int p1), .val (.int p2), .val (.int p3), .val (.long q4), .second, .val (.int (p1 &&& (7 : Int32))), .val (.ref b5), .unset, .unset, .unset, .unset, .unset, .unset] [])) rfl (hb hby at_62) (by decide) (by decide)
  obtain ⟨b13, g13⟩ : ∃ z, z = T12.heap.size := ⟨_, rfl⟩      -- the fresh object's address
  rw [← g13] at A13 D13 st13      -- A13 : Exa Z h13 b13 "com/example/rosehip/rosehip/codec/BerReader"; E13 : Ext T12.heap h13 (carries every older fact: .ext E13)
  have F_bytes_b13 : Fld Z h13 b13 "com/example/rosehip/rosehip/codec/BerReader" "bytes" "[B" .null := D13 (Or.inr (hw _ (List.mem_of_getElem? (i := 18) rfl))) (ty := (.array .byte)) (by decide)
  have F_position_b13 : Fld Z h13 b13 "com/example/rosehip/rosehip/codec/BerReader" "position" "I" (.int (0 : Int32)) := D13 (Or.inl (hw _ (List.mem_of_getElem? (i := 20) rfl))) (ty := .int) (by decide)
  have F_limit_b13 : Fld Z h13 b13 "com/example/rosehip/rosehip/codec/BerReader" "limit" "I" (.int (0 : Int32)) := D13 (Or.inr (hw _ (List.mem_of_getElem? (i := 22) rfl))) (ty := .int) (by decide)
  have E_b13 := A13
  have g_b13 : n0 ≤ b13 := Nat.le_trans (Nat.le_trans (Nat.le_trans (Nat.le_trans (Nat.le_trans (Nat.le_trans (Nat.le_trans (Nat.le_trans (Nat.le_trans Z0 E5.1) KQ6.1) KQ7.1) KQ8.1) KQ9.1) KQ10.1) KQ11.1) KQ12.1) (Nat.le_of_eq g13.symm)
  have sz_b13 : h0.size ≤ b13 := (Nat.le_trans K12.1 (Nat.le_of_eq g13.symm))
  have K13 : Keep h0 h13 [] := K12.ext E13
  -- pc 68: the constructor of com/example/rosehip/rosehip/codec/BerReader by its contract rm2
  obtain ⟨_, _, ⟨T14, L14, k14, n14⟩, -, X14, ⟨Lc14, hQ14, l14, y14, z14⟩, st14⟩ := X13.specialBack hx (y := (⟨"com/example/rosehip/rosehip/codec/BerReader", "<init>", "([B)V"⟩ : MethodName)) rfl hown (mvT hZ (hw _ (List.mem_of_getElem? (i := 8) rfl))) (mvT hZ (hw _ (List.mem_of_getElem? (i := 9) rfl))) (mvT hZ (hw _ (List.mem_of_getElem? (i := 10) rfl))) (by decide) (backOf (W := 1) (rm2 l Z a0 hw [] b13 b5 (p1 &&& (7 : Int32)) .null (.int (0 : Int32)) (.int (0 : Int32)) h13 n0 (Nat.le_trans (Nat.le_trans (Nat.le_trans (Nat.le_trans (Nat.le_trans (Nat.le_trans (Nat.le_trans (Nat.le_trans (Nat.le_trans Z0 E5.1) KQ6.1) KQ7.1) KQ8.1) KQ9.1) KQ10.1) KQ11.1) KQ12.1) E13.1) E_b13 F_bytes_b13 g_b13 F_position_b13 F_limit_b13 (B12q.ext E13)) hZ (hw _ (List.mem_of_getElem? (i := 10) rfl)) (hw _ (List.mem_of_getElem? (i := 7) rfl)) (by decide) (by decide)) (g := (mkF m 68 #[.val (.int p1), .val (.int p2), .val (.int p3), .val (.long q4), .second, .val (.int (p1 &&& (7 : Int32))), .val (.ref b5), .unset, .unset, .unset, .unset, .unset, .unset] [(.ref b5), (.ref b13), (.ref b13)])) rfl (by rw [hml]; rfl) (Steps.refl _) (a := b13) (argsL := [(.ref b5)]) (rest := [(.ref b13)]) (lenOf pd_0_1 rfl) rfl (by show 2 * 0 + _ ≤ _; exact Nat.le_of_eq rfl) (hb hby at_68) (fun _ _ => ⟨rfl, e13, (by decide : 2 + 0 ≤ _), (by decide : 10 + 0 ≤ _)⟩)
  dsimp only [Pt.U, Pt.locs, Pt.cells, Pt.slots] at X14 l14 y14 z14 st14 hQ14
  subst l14 y14 z14
  obtain ⟨rfl, N14q, KQ14', E14q, Fb14q, Fp14q, Fl14q⟩ := hQ14
  have N14 := Fr.app N12 N14q
  have KQ14 : Keep h13 T14.heap [b13] := KQ14'
  have K14 : Keep h0 T14.heap [] := K13.trans KQ14 (allS (Or.inr sz_b13) all0)
  -- pc 75: com/example/rosehip/rosehip/codec/BerReader.hasMore by the contract of the body that the receiver's class selects, rm5
  obtain ⟨cq15, kq15, q15a, q15b, q15c⟩ := isOf hZ rfl E14q
  obtain ⟨_, _, ⟨T15, L15, k15, n15⟩, -, X15, ⟨Lc15, hQ15, l15, y15, z15⟩, st15⟩ := X14.virtualBack hx (y := (⟨"com/example/rosehip/rosehip/codec/BerReader", "hasMore", "()Z"⟩ : MethodName)) (z := (⟨"com/example/rosehip/rosehip/codec/BerReader", "hasMore", "()Z"⟩ : MethodName)) hown (mvT hZ (hw _ (List.mem_of_getElem? (i := 23) rfl))) (mvT hZ (hw _ (List.mem_of_getElem? (i := 24) rfl))) (notFace_of_selects (args := #[]) (mvT hZ (hw _ (List.mem_of_getElem? (i := 26) rfl)))) (mvT hZ (hw _ (List.mem_of_getElem? (i := 26) rfl))) (mvT hZ (hw _ (List.mem_of_getElem? (i := 25) rfl))) (by decide) (backOf (W := 0) (rm5 l Z a0 hw [] b13 (0 : Int32) (p1 &&& (7 : Int32)) T14.heap n0 (Nat.le_trans (Nat.le_trans (Nat.le_trans (Nat.le_trans (Nat.le_trans (Nat.le_trans (Nat.le_trans (Nat.le_trans (Nat.le_trans (Nat.le_trans Z0 E5.1) KQ6.1) KQ7.1) KQ8.1) KQ9.1) KQ10.1) KQ11.1) KQ12.1) E13.1) KQ14.1) Fp14q Fl14q) hZ (hw _ (List.mem_of_getElem? (i := 27) rfl)) (hw _ (List.mem_of_getElem? (i := 7) rfl)) (by decide) (by decide)) q15a q15c (g := (mkF m 75 #[.val (.int p1), .val (.int p2), .val (.int p3), .val (.long q4), .second, .val (.int (p1 &&& (7 : Int32))), .val (.ref b5), .val (.ref b13), .unset, .unset, .unset, .unset, .unset] [(.ref b13)])) rfl (by rw [hml]; rfl) (Steps.refl _) (argsL := []) (rest := []) (lenOf pd_0_4 rfl) rfl (by show 2 * 0 + _ ≤ _; exact Nat.le_of_eq rfl) (hb hby at_75) (fun _ _ => ⟨rfl, rfl, (by decide : 2 + 0 ≤ _), (by decide : 10 + 0 ≤ _)⟩)
  dsimp only [Pt.U, Pt.locs, Pt.cells, Pt.slots] at X15 l15 y15 z15 st15 hQ15
  subst l15 y15 z15
  obtain ⟨rfl, N15q, eh15⟩ := hQ15
  have N15 := Fr.app N14 N15q
  -- pc 99: com/example/rosehip/rosehip/codec/BerReader.hasMore by the contract of the body that the receiver's class selects, rm5
  obtain ⟨cq16, kq16, q16a, q16b, q16c⟩ := isOf hZ eh15 E14q
  obtain ⟨_, _, ⟨T16, L16, k16, n16⟩, -, X16, ⟨Lc16, hQ16, l16, y16, z16⟩, st16⟩ := X15.virtualBack hx (y := (⟨"com/example/rosehip/rosehip/codec/BerReader", "hasMore", "()Z"⟩ : MethodName)) (z := (⟨"com/example/rosehip/rosehip/codec/BerReader", "hasMore", "()Z"⟩ : MethodName)) hown (mvT hZ (hw _ (List.mem_of_getElem? (i := 23) rfl))) (mvT hZ (hw _ (List.mem_of_getElem? (i := 24) rfl))) (notFace_of_selects (args := #[]) (mvT hZ (hw _ (List.mem_of_getElem? (i := 26) rfl)))) (mvT hZ (hw _ (List.mem_of_getElem? (i := 26) rfl))) (mvT hZ (hw _ (List.mem_of_getElem? (i := 25) rfl))) (by decide) (backOf (W := 0) (rm5 l Z a0 hw [] b13 (0 : Int32) (p1 &&& (7 : Int32)) T14.heap n0 (Nat.le_trans (Nat.le_trans (Nat.le_trans (Nat.le_trans (Nat.le_trans (Nat.le_trans (Nat.le_trans (Nat.le_trans (Nat.le_trans (Nat.le_trans Z0 E5.1) KQ6.1) KQ7.1) KQ8.1) KQ9.1) KQ10.1) KQ11.1) KQ12.1) E13.1) KQ14.1) Fp14q Fl14q) hZ (hw _ (List.mem_of_getElem? (i := 27) rfl)) (hw _ (List.mem_of_getElem? (i := 7) rfl)) (by decide) (by decide)) q16a q16c (g := (mkF m 99 #[.val (.int p1), .val (.int p2), .val (.int p3), .val (.long q4), .second, .val (.int (p1 &&& (7 : Int32))), .val (.ref b5), .val (.ref b13), .val (.int (fv5 (0 : Int32) (p1 &&& (7 : Int32)))), .unset, .unset, .unset, .unset] [(.ref b13)])) rfl (by rw [hml]; rfl) (Steps.refl _) (argsL := []) (rest := []) (lenOf pd_0_4 rfl) rfl (by show 2 * 0 + _ ≤ _; exact Nat.le_of_eq rfl) (hb hby at_99) (fun _ _ => ⟨rfl, eh15, (by decide : 2 + 0 ≤ _), (by decide : 10 + 0 ≤ _)⟩)
  dsimp only [Pt.U, Pt.locs, Pt.cells, Pt.slots] at X16 l16 y16 z16 st16 hQ16
  subst l16 y16 z16
  obtain ⟨rfl, N16q, eh16⟩ := hQ16
  have N16 := Fr.app N15 N16q
  have Bnow := ((B12q.ext E13).keep KQ14 (ninS (Nat.ne_of_lt (Nat.lt_of_lt_of_le B12q.lt (Nat.le_of_eq g13.symm))) nin0))
  obtain ⟨cl_b5_164, Ar_b5, S_b5, N_b5⟩ := Bnow
  have hin164 : ¬ ((0 : Int32) < 0 ∨ cl_b5_164.slots.size ≤ ((0 : Int32)).toNatClampNeg) := inb_of S_b5 ⟨by decide, h0n⟩
  obtain ⟨T17, h17, X17, e17, W17, st17⟩ := stB X16 hx hZ eh16 Ar_b5 (j := (0 : Int32)) hin164 (g := (mkF m 164 #[.val (.int p1), .val (.int p2), .val (.int p3), .val (.long q4), .second, .val (.int (p1 &&& (7 : Int32))), .val (.ref b5), .val (.ref b13), .val (.int (fv5 (0 : Int32) (p1 &&& (7 : Int32)))), .val (.int ((p2 &&& (2147483647 : Int32)) % ((p1 &&& (7 : Int32)) - (1 : Int32)))), .val (.int (((((p3 &&& (2147483647 : Int32)) % (30 : Int32)) + (1 : Int32)) ||| ((((p3.toUInt32 >>> ((8 : Int32) &&& 31).toUInt32).toInt32) &&& (3 : Int32)) <<< ((6 : Int32) &&& 31))) ||| ((((p3.toUInt32 >>> ((10 : Int32) &&& 31).toUInt32).toInt32) &&& (1 : Int32)) <<< ((5 : Int32) &&& 31)))), .unset, .unset] [(.int ((((((p3 &&& (2147483647 : Int32)) % (30 : Int32)) + (1 : Int32)) ||| ((((p3.toUInt32 >>> ((8 : Int32) &&& 31).toUInt32).toInt32) &&& (3 : Int32)) <<< ((6 : Int32) &&& 31))) ||| ((((p3.toUInt32 >>> ((10 : Int32) &&& 31).toUInt32).toInt32) &&& (1 : Int32)) <<< ((5 : Int32) &&& 31))).toInt8.toInt32)), (.int (0 : Int32)), (.ref b5)])) rfl rfl (hb hby at_164)
  have Ar17 := Ar_b5.same W17
  have K17 : Keep h0 h17 [] := K14.wr W17 (Or.inr sz_b5)
  have N17 := Fr.snoc X17 N16 g_b5
  -- (bastore into a boolean[]: stZ in stB's place)
  have S17 : (cl_b5_164.setSlot ((0 : Int32)).toNatClampNeg (.int (nar .byte ((((((p3 &&& (2147483647 : Int32)) % (30 : Int32)) + (1 : Int32)) ||| ((((p3.toUInt32 >>> ((8 : Int32) &&& 31).toUInt32).toInt32) &&& (3 : Int32)) <<< ((6 : Int32) &&& 31))) ||| ((((p3.toUInt32 >>> ((10 : Int32) &&& 31).toUInt32).toInt32) &&& (1 : Int32)) <<< ((5 : Int32) &&& 31))).toInt8.toInt32)))).slots.size = (p1 &&& (7 : Int32)).toNatClampNeg := (own_szS _ _ _).trans S_b5
  have hin171 := inb_of (j := (1 : Int32)) S17 ⟨by decide, h2⟩
  obtain ⟨T18, h18, X18, e18, W18, st18⟩ := stB X17 hx hZ e17 Ar17 (j := (1 : Int32)) hin171 (g := (mkF m 171 #[.val (.int p1), .val (.int p2), .val (.int p3), .val (.long q4), .second, .val (.int (p1 &&& (7 : Int32))), .val (.ref b5), .val (.ref b13), .val (.int (fv5 (0 : Int32) (p1 &&& (7 : Int32)))), .val (.int ((p2 &&& (2147483647 : Int32)) % ((p1 &&& (7 : Int32)) - (1 : Int32)))), .val (.int (((((p3 &&& (2147483647 : Int32)) % (30 : Int32)) + (1 : Int32)) ||| ((((p3.toUInt32 >>> ((8 : Int32) &&& 31).toUInt32).toInt32) &&& (3 : Int32)) <<< ((6 : Int32) &&& 31))) ||| ((((p3.toUInt32 >>> ((10 : Int32) &&& 31).toUInt32).toInt32) &&& (1 : Int32)) <<< ((5 : Int32) &&& 31)))), .unset, .unset] [(.int (((p2 &&& (2147483647 : Int32)) % ((p1 &&& (7 : Int32)) - (1 : Int32))).toInt8.toInt32)), (.int (1 : Int32)), (.ref b5)])) rfl rfl (hb hby at_171)
  have B2 : By2 Z h18 b5 (p1 &&& (7 : Int32)) xx yy := by rw [hxx, hyy]; exact By2.of (Ar17.same W18) S_b5 N_b5 h2
  have K18 : Keep h0 h18 [] := K17.wr W18 (Or.inr sz_b5)
  have N18 := Fr.snoc X18 N17 g_b5
  -- (bastore into a boolean[]: stZ in stB's place)
  -- pc 174: com/example/rosehip/rosehip/codec/BerReader.read by the contract of the body that the receiver's class selects, rm6
  obtain ⟨cq19, kq19, q19a, q19b, q19c⟩ := isOf hZ e18 ((E14q.wr W17).wr W18)
  obtain ⟨_, _, ⟨T19, L19, k19, n19⟩, -, X19, ⟨Lc19, hQ19, l19, y19, z19⟩, st19⟩ := X18.virtualBack hx (y := (⟨"com/example/rosehip/rosehip/codec/BerReader", "read", "()Lcom/example/rosehip/rosehip/codec/BerReader$Element;"⟩ : MethodName)) (z := (⟨"com/example/rosehip/rosehip/codec/BerReader", "read", "()Lcom/example/rosehip/rosehip/codec/BerReader$Element;"⟩ : MethodName)) hown (mvT hZ (hw _ (List.mem_of_getElem? (i := 29) rfl))) (mvT hZ (hw _ (List.mem_of_getElem? (i := 30) rfl))) (notFace_of_selects (args := #[]) (mvT hZ (hw _ (List.mem_of_getElem? (i := 32) rfl)))) (mvT hZ (hw _ (List.mem_of_getElem? (i := 32) rfl))) (mvT hZ (hw _ (List.mem_of_getElem? (i := 31) rfl))) (by decide) (backOf (W := 0) (rm6 l Z a0 hw [] b13 (p1 &&& (7 : Int32)) b5 xx yy h18 n0 (Nat.le_trans (Nat.le_trans (Nat.le_trans (Nat.le_trans (Nat.le_trans (Nat.le_trans (Nat.le_trans (Nat.le_trans (Nat.le_trans (Nat.le_trans (Nat.le_trans (Nat.le_trans Z0 E5.1) KQ6.1) KQ7.1) KQ8.1) KQ9.1) KQ10.1) KQ11.1) KQ12.1) E13.1) KQ14.1) (Keep.of_wr W17).1) (Keep.of_wr W18).1) ((Fb14q.other W17 (Or.inl (Ne.symm (Nat.ne_of_lt (Nat.lt_of_lt_of_le B12q.lt (Nat.le_of_eq g13.symm)))))).other W18 (Or.inl (Ne.symm (Nat.ne_of_lt (Nat.lt_of_lt_of_le B12q.lt (Nat.le_of_eq g13.symm)))))) B2 h2 hid hln ((Fp14q.other W17 (Or.inl (Ne.symm (Nat.ne_of_lt (Nat.lt_of_lt_of_le B12q.lt (Nat.le_of_eq g13.symm)))))).other W18 (Or.inl (Ne.symm (Nat.ne_of_lt (Nat.lt_of_lt_of_le B12q.lt (Nat.le_of_eq g13.symm)))))) ((Fl14q.other W17 (Or.inl (Ne.symm (Nat.ne_of_lt (Nat.lt_of_lt_of_le B12q.lt (Nat.le_of_eq g13.symm)))))).other W18 (Or.inl (Ne.symm (Nat.ne_of_lt (Nat.lt_of_lt_of_le B12q.lt (Nat.le_of_eq g13.symm)))))) ((E14q.wr W17).wr W18) g_b13 hr4 hr66 hr94 hr160) hZ (hw _ (List.mem_of_getElem? (i := 33) rfl)) (hw _ (List.mem_of_getElem? (i := 7) rfl)) (by decide) (by decide)) q19a q19c (g := (mkF m 174 #[.val (.int p1), .val (.int p2), .val (.int p3), .val (.long q4), .second, .val (.int (p1 &&& (7 : Int32))), .val (.ref b5), .val (.ref b13), .val (.int (fv5 (0 : Int32) (p1 &&& (7 : Int32)))), .val (.int ((p2 &&& (2147483647 : Int32)) % ((p1 &&& (7 : Int32)) - (1 : Int32)))), .val (.int (((((p3 &&& (2147483647 : Int32)) % (30 : Int32)) + (1 : Int32)) ||| ((((p3.toUInt32 >>> ((8 : Int32) &&& 31).toUInt32).toInt32) &&& (3 : Int32)) <<< ((6 : Int32) &&& 31))) ||| ((((p3.toUInt32 >>> ((10 : Int32) &&& 31).toUInt32).toInt32) &&& (1 : Int32)) <<< ((5 : Int32) &&& 31)))), .unset, .unset] [(.ref b13)])) rfl (by rw [hml]; rfl) (Steps.refl _) (argsL := []) (rest := []) (lenOf pd_0_5 rfl) rfl (by show 2 * 0 + _ ≤ _; exact Nat.le_of_eq rfl) (hb hby at_174) (fun _ _ => ⟨rfl, e18, (by decide : 2 + 2 ≤ _), (by decide : 10 + 8 ≤ _)⟩)
  dsimp only [Pt.U, Pt.locs, Pt.cells, Pt.slots] at X19 l19 y19 z19 st19 hQ19
  subst l19 y19 z19
  obtain ⟨b19, rfl, N19q, KQ19', Ee19q, Fe19q, E19q, Fp19q, Fl19q⟩ := hQ19
  have N19 := Fr.app N18 N19q
  have KQ19 : Keep h18 T19.heap [b13] := KQ19'
  have K19 : Keep h0 T19.heap [] := K18.trans KQ19 (allS (Or.inr sz_b13) all0)
  -- pc 181: com/example/rosehip/rosehip/codec/BerReader.hasMore by the contract of the body that the receiver's class selects, rm5
  obtain ⟨cq20, kq20, q20a, q20b, q20c⟩ := isOf hZ rfl E19q
  obtain ⟨_, _, ⟨T20, L20, k20, n20⟩, -, X20, ⟨Lc20, hQ20, l20, y20, z20⟩, st20⟩ := X19.virtualBack hx (y := (⟨"com/example/rosehip/rosehip/codec/BerReader", "hasMore", "()Z"⟩ : MethodName)) (z := (⟨"com/example/rosehip/rosehip/codec/BerReader", "hasMore", "()Z"⟩ : MethodName)) hown (mvT hZ (hw _ (List.mem_of_getElem? (i := 23) rfl))) (mvT hZ (hw _ (List.mem_of_getElem? (i := 24) rfl))) (notFace_of_selects (args := #[]) (mvT hZ (hw _ (List.mem_of_getElem? (i := 26) rfl)))) (mvT hZ (hw _ (List.mem_of_getElem? (i := 26) rfl))) (mvT hZ (hw _ (List.mem_of_getElem? (i := 25) rfl))) (by decide) (backOf (W := 0) (rm5 l Z a0 hw [] b13 (own_en yy) (p1 &&& (7 : Int32)) T19.heap n0 (Nat.le_trans (Nat.le_trans (Nat.le_trans (Nat.le_trans (Nat.le_trans (Nat.le_trans (Nat.le_trans (Nat.le_trans (Nat.le_trans (Nat.le_trans (Nat.le_trans (Nat.le_trans (Nat.le_trans Z0 E5.1) KQ6.1) KQ7.1) KQ8.1) KQ9.1) KQ10.1) KQ11.1) KQ12.1) E13.1) KQ14.1) (Keep.of_wr W17).1) (Keep.of_wr W18).1) KQ19.1) Fp19q Fl19q) hZ (hw _ (List.mem_of_getElem? (i := 27) rfl)) (hw _ (List.mem_of_getElem? (i := 7) rfl)) (by decide) (by decide)) q20a q20c (g := (mkF m 181 #[.val (.int p1), .val (.int p2), .val (.int p3), .val (.long q4), .second, .val (.int (p1 &&& (7 : Int32))), .val (.ref b5), .val (.ref b13), .val (.int (fv5 (0 : Int32) (p1 &&& (7 : Int32)))), .val (.int ((p2 &&& (2147483647 : Int32)) % ((p1 &&& (7 : Int32)) - (1 : Int32)))), .val (.int (((((p3 &&& (2147483647 : Int32)) % (30 : Int32)) + (1 : Int32)) ||| ((((p3.toUInt32 >>> ((8 : Int32) &&& 31).toUInt32).toInt32) &&& (3 : Int32)) <<< ((6 : Int32) &&& 31))) ||| ((((p3.toUInt32 >>> ((10 : Int32) &&& 31).toUInt32).toInt32) &&& (1 : Int32)) <<< ((5 : Int32) &&& 31)))), .val (.ref b19), .unset] [(.ref b13)])) rfl (by rw [hml]; rfl) (Steps.refl _) (argsL := []) (rest := []) (lenOf pd_0_4 rfl) rfl (by show 2 * 0 + _ ≤ _; exact Nat.le_of_eq rfl) (hb hby at_181) (fun _ _ => ⟨rfl, rfl, (by decide : 4 + 0 ≤ _), (by decide : 18 + 0 ≤ _)⟩)
  dsimp only [Pt.U, Pt.locs, Pt.cells, Pt.slots] at X20 l20 y20 z20 st20 hQ20
  subst l20 y20 z20
  obtain ⟨rfl, N20q, eh20⟩ := hQ20
  have N20 := Fr.app N19 N20q
  -- pc 207: com/example/rosehip/rosehip/codec/BerReader$Element.end by the contract of the body that the receiver's class selects, rm14
  obtain ⟨cq21, kq21, q21a, q21b, q21c⟩ := isOf hZ eh20 Ee19q
  obtain ⟨_, _, ⟨T21, L21, k21, n21⟩, -, X21, ⟨Lc21, hQ21, l21, y21, z21⟩, st21⟩ := X20.virtualBack hx (y := (⟨"com/example/rosehip/rosehip/codec/BerReader$Element", "end", "()I"⟩ : MethodName)) (z := (⟨"com/example/rosehip/rosehip/codec/BerReader$Element", "end", "()I"⟩ : MethodName)) hown (mvT hZ (hw _ (List.mem_of_getElem? (i := 90) rfl))) (mvT hZ (hw _ (List.mem_of_getElem? (i := 91) rfl))) (notFace_of_selects (args := #[]) (mvT hZ (hw _ (List.mem_of_getElem? (i := 93) rfl)))) (mvT hZ (hw _ (List.mem_of_getElem? (i := 93) rfl))) (mvT hZ (hw _ (List.mem_of_getElem? (i := 92) rfl))) (by decide) (backOf (W := 0) (rm14 l Z a0 hw [] b19 (own_en yy) T19.heap n0 (Nat.le_trans (Nat.le_trans (Nat.le_trans (Nat.le_trans (Nat.le_trans (Nat.le_trans (Nat.le_trans (Nat.le_trans (Nat.le_trans (Nat.le_trans (Nat.le_trans (Nat.le_trans (Nat.le_trans Z0 E5.1) KQ6.1) KQ7.1) KQ8.1) KQ9.1) KQ10.1) KQ11.1) KQ12.1) E13.1) KQ14.1) (Keep.of_wr W17).1) (Keep.of_wr W18).1) KQ19.1) Fe19q) hZ (hw _ (List.mem_of_getElem? (i := 94) rfl)) (hw _ (List.mem_of_getElem? (i := 75) rfl)) (by decide) (by decide)) q21a q21c (g := (mkF m 207 #[.val (.int p1), .val (.int p2), .val (.int p3), .val (.long q4), .second, .val (.int (p1 &&& (7 : Int32))), .val (.ref b5), .val (.ref b13), .val (.int (fv5 (0 : Int32) (p1 &&& (7 : Int32)))), .val (.int ((p2 &&& (2147483647 : Int32)) % ((p1 &&& (7 : Int32)) - (1 : Int32)))), .val (.int (((((p3 &&& (2147483647 : Int32)) % (30 : Int32)) + (1 : Int32)) ||| ((((p3.toUInt32 >>> ((8 : Int32) &&& 31).toUInt32).toInt32) &&& (3 : Int32)) <<< ((6 : Int32) &&& 31))) ||| ((((p3.toUInt32 >>> ((10 : Int32) &&& 31).toUInt32).toInt32) &&& (1 : Int32)) <<< ((5 : Int32) &&& 31)))), .val (.ref b19), .val (.int (fv5 (own_en yy) (p1 &&& (7 : Int32))))] [(.ref b19)])) rfl (by rw [hml]; rfl) (Steps.refl _) (argsL := []) (rest := []) (lenOf pd_0_8 rfl) rfl (by show 2 * 0 + _ ≤ _; exact Nat.le_of_eq rfl) (hb hby at_207) (fun _ _ => ⟨rfl, eh20, (by decide : 4 + 0 ≤ _), (by decide : 18 + 0 ≤ _)⟩)
  dsimp only [Pt.U, Pt.locs, Pt.cells, Pt.slots] at X21 l21 y21 z21 st21 hQ21
  subst l21 y21 z21
  obtain ⟨rfl, N21q, eh21⟩ := hQ21
  have N21 := Fr.app N20 N21q
  -- pc 219: com/example/rosehip/rosehip/codec/BerReader.hasMore by the contract of the body that the receiver's class selects, rm5
  obtain ⟨cq22, kq22, q22a, q22b, q22c⟩ := isOf hZ eh21 E19q
  obtain ⟨_, _, ⟨T22, L22, k22, n22⟩, -, X22, ⟨Lc22, hQ22, l22, y22, z22⟩, st22⟩ := X21.virtualBack hx (y := (⟨"com/example/rosehip/rosehip/codec/BerReader", "hasMore", "()Z"⟩ : MethodName)) (z := (⟨"com/example/rosehip/rosehip/codec/BerReader", "hasMore", "()Z"⟩ : MethodName)) hown (mvT hZ (hw _ (List.mem_of_getElem? (i := 23) rfl))) (mvT hZ (hw _ (List.mem_of_getElem? (i := 24) rfl))) (notFace_of_selects (args := #[]) (mvT hZ (hw _ (List.mem_of_getElem? (i := 26) rfl)))) (mvT hZ (hw _ (List.mem_of_getElem? (i := 26) rfl))) (mvT hZ (hw _ (List.mem_of_getElem? (i := 25) rfl))) (by decide) (backOf (W := 0) (rm5 l Z a0 hw [] b13 (own_en yy) (p1 &&& (7 : Int32)) T19.heap n0 (Nat.le_trans (Nat.le_trans (Nat.le_trans (Nat.le_trans (Nat.le_trans (Nat.le_trans (Nat.le_trans (Nat.le_trans (Nat.le_trans (Nat.le_trans (Nat.le_trans (Nat.le_trans (Nat.le_trans Z0 E5.1) KQ6.1) KQ7.1) KQ8.1) KQ9.1) KQ10.1) KQ11.1) KQ12.1) E13.1) KQ14.1) (Keep.of_wr W17).1) (Keep.of_wr W18).1) KQ19.1) Fp19q Fl19q) hZ (hw _ (List.mem_of_getElem? (i := 27) rfl)) (hw _ (List.mem_of_getElem? (i := 7) rfl)) (by decide) (by decide)) q22a q22c (g := (mkF m 219 #[.val (.int p1), .val (.int p2), .val (.int p3), .val (.long q4), .second, .val (.int (p1 &&& (7 : Int32))), .val (.ref b5), .val (.ref b13), .val (.int (fv5 (0 : Int32) (p1 &&& (7 : Int32)))), .val (.int ((p2 &&& (2147483647 : Int32)) % ((p1 &&& (7 : Int32)) - (1 : Int32)))), .val (.int (((((p3 &&& (2147483647 : Int32)) % (30 : Int32)) + (1 : Int32)) ||| ((((p3.toUInt32 >>> ((8 : Int32) &&& 31).toUInt32).toInt32) &&& (3 : Int32)) <<< ((6 : Int32) &&& 31))) ||| ((((p3.toUInt32 >>> ((10 : Int32) &&& 31).toUInt32).toInt32) &&& (1 : Int32)) <<< ((5 : Int32) &&& 31)))), .val (.ref b19), .val (.int (fv5 (own_en yy) (p1 &&& (7 : Int32))))] [(.ref b13)])) rfl (by rw [hml]; rfl) (Steps.refl _) (argsL := []) (rest := []) (lenOf pd_0_4 rfl) rfl (by show 2 * 0 + _ ≤ _; exact Nat.le_of_eq rfl) (hb hby at_219) (fun _ _ => ⟨rfl, eh21, (by decide : 4 + 0 ≤ _), (by decide : 18 + 0 ≤ _)⟩)
  dsimp only [Pt.U, Pt.locs, Pt.cells, Pt.slots] at X22 l22 y22 z22 st22 hQ22
  subst l22 y22 z22
  obtain ⟨rfl, N22q, eh22⟩ := hQ22
  have N22 := Fr.app N21 N22q
  obtain ⟨fs, hr, hrun, hended, hW, hsame⟩ := X22.leave (v := some (.int (1 : Int32))) (fun h => by rw [Bd.returns] at h; cases h)
  refine ⟨_, _, pre0 _ ?_, hrun, hended, _, _, rfl, ?_, ⟨_, rfl⟩, hW, hsame.mono (by decide) (by decide)⟩
  -- 4. STEPS
  · show Steps p.tables e below (s₁.setTop (mkF m 0 #[.val (.int p1), .val (.int p2), .val (.int p3), .val (.long q4), .second, .unset, .unset, .unset, .unset, .unset, .unset, .unset, .unset] [])) _
    refine XS.iloadN X0.here hx rfl (hb hby at_0) rfl ?_
    show Steps p.tables e below (s₁.setTop (mkF m 1 #[.val (.int p1), .val (.int p2), .val (.int p3), .val (.long q4), .second, .unset, .unset, .unset, .unset, .unset, .unset, .unset, .unset] [(.int p1)])) _
    refine XS.bipush X0.here hx rfl (hb hby at_1) ?_
    show Steps p.tables e below (s₁.setTop (mkF m 3 #[.val (.int p1), .val (.int p2), .val (.int p3), .val (.long q4), .second, .unset, .unset, .unset, .unset, .unset, .unset, .unset, .unset] [(.int (7 : Int32)), (.int p1)])) _
    refine XS.iand X0.here hx rfl (hb hby at_3) rfl ?_
    show Steps p.tables e below (s₁.setTop (mkF m 4 #[.val (.int p1), .val (.int p2), .val (.int p3), .val (.long q4), .second, .unset, .unset, .unset, .unset, .unset, .unset, .unset, .unset] [(.int (p1 &&& (7 : Int32)))])) _
    refine XS.istore X0.here hx rfl (hb hby at_4) rfl (l' := #[.val (.int p1), .val (.int p2), .val (.int p3), .val (.long q4), .second, .val (.int (p1 &&& (7 : Int32))), .unset, .unset, .unset, .unset, .unset, .unset, .unset]) rfl ?_
    show Steps p.tables e below (s₁.setTop (mkF m 6 #[.val (.int p1), .val (.int p2), .val (.int p3), .val (.long q4), .second, .val (.int (p1 &&& (7 : Int32))), .unset, .unset, .unset, .unset, .unset, .unset, .unset] [])) _
    refine XS.iload X0.here hx rfl (hb hby at_6) rfl ?_
    show Steps p.tables e below (s₁.setTop (mkF m 8 #[.val (.int p1), .val (.int p2), .val (.int p3), .val (.long q4), .second, .val (.int (p1 &&& (7 : Int32))), .unset, .unset, .unset, .unset, .unset, .unset, .unset] [(.int (p1 &&& (7 : Int32)))])) _
    refine st5 _ ?_
    show Steps p.tables e below (T5.setTop (mkF m 10 #[.val (.int p1), .val (.int p2), .val (.int p3), .val (.long q4), .second, .val (.int (p1 &&& (7 : Int32))), .unset, .unset, .unset, .unset, .unset, .unset, .unset] [(.ref b5)])) _
    refine XS.astore X5.here hx rfl (hb hby at_10) rfl rfl (l' := #[.val (.int p1), .val (.int p2), .val (.int p3), .val (.long q4), .second, .val (.int (p1 &&& (7 : Int32))), .val (.ref b5), .unset, .unset, .unset, .unset, .unset, .unset]) rfl ?_
    show Steps p.tables e below (T5.setTop (mkF m 12 #[.val (.int p1), .val (.int p2), .val (.int p3), .val (.long q4), .second, .val (.int (p1 &&& (7 : Int32))), .val (.ref b5), .unset, .unset, .unset, .unset, .unset, .unset] [])) _
    refine XS.aload X5.here hx rfl (hb hby at_12) rfl rfl ?_
    show Steps p.tables e below (T5.setTop (mkF m 14 #[.val (.int p1), .val (.int p2), .val (.int p3), .val (.long q4), .second, .val (.int (p1 &&& (7 : Int32))), .val (.ref b5), .unset, .unset, .unset, .unset, .unset, .unset] [(.ref b5)])) _
    refine XS.iconst X5.here hx rfl (hb hby at_14) ?_
    show Steps p.tables e below (T5.setTop (mkF m 15 #[.val (.int p1), .val (.int p2), .val (.int p3), .val (.long q4), .second, .val (.int (p1 &&& (7 : Int32))), .val (.ref b5), .unset, .unset, .unset, .unset, .unset, .unset] [(.int (0 : Int32)), (.ref b5)])) _
    refine XS.lloadN X5.here hx rfl (hb hby at_15) rfl ?_
    show Steps p.tables e below (T5.setTop (mkF m 16 #[.val (.int p1), .val (.int p2), .val (.int p3), .val (.long q4), .second, .val (.int (p1 &&& (7 : Int32))), .val (.ref b5), .unset, .unset, .unset, .unset, .unset, .unset] [(.long q4), (.int (0 : Int32)), (.ref b5)])) _
    refine st6 _ ?_
    show Steps p.tables e below (T6.setTop (mkF m 19 #[.val (.int p1), .val (.int p2), .val (.int p3), .val (.long q4), .second, .val (.int (p1 &&& (7 : Int32))), .val (.ref b5), .unset, .unset, .unset, .unset, .unset, .unset] [])) _
    refine XS.aload X6.here hx rfl (hb hby at_19) rfl rfl ?_
    show Steps p.tables e below (T6.setTop (mkF m 21 #[.val (.int p1), .val (.int p2), .val (.int p3), .val (.long q4), .second, .val (.int (p1 &&& (7 : Int32))), .val (.ref b5), .unset, .unset, .unset, .unset, .unset, .unset] [(.ref b5)])) _
    refine XS.iconst X6.here hx rfl (hb hby at_21) ?_
    show Steps p.tables e below (T6.setTop (mkF m 22 #[.val (.int p1), .val (.int p2), .val (.int p3), .val (.long q4), .second, .val (.int (p1 &&& (7 : Int32))), .val (.ref b5), .unset, .unset, .unset, .unset, .unset, .unset] [(.int (1 : Int32)), (.ref b5)])) _
    refine XS.lloadN X6.here hx rfl (hb hby at_22) rfl ?_
    show Steps p.tables e below (T6.setTop (mkF m 23 #[.val (.int p1), .val (.int p2), .val (.int p3), .val (.long q4), .second, .val (.int (p1 &&& (7 : Int32))), .val (.ref b5), .unset, .unset, .unset, .unset, .unset, .unset] [(.long q4), (.int (1 : Int32)), (.ref b5)])) _
    refine st7 _ ?_
    show Steps p.tables e below (T7.setTop (mkF m 26 #[.val (.int p1), .val (.int p2), .val (.int p3), .val (.long q4), .second, .val (.int (p1 &&& (7 : Int32))), .val (.ref b5), .unset, .unset, .unset, .unset, .unset, .unset] [])) _
    refine XS.aload X7.here hx rfl (hb hby at_26) rfl rfl ?_
    show Steps p.tables e below (T7.setTop (mkF m 28 #[.val (.int p1), .val (.int p2), .val (.int p3), .val (.long q4), .second, .val (.int (p1 &&& (7 : Int32))), .val (.ref b5), .unset, .unset, .unset, .unset, .unset, .unset] [(.ref b5)])) _
    refine XS.iconst X7.here hx rfl (hb hby at_28) ?_
    show Steps p.tables e below (T7.setTop (mkF m 29 #[.val (.int p1), .val (.int p2), .val (.int p3), .val (.long q4), .second, .val (.int (p1 &&& (7 : Int32))), .val (.ref b5), .unset, .unset, .unset, .unset, .unset, .unset] [(.int (2 : Int32)), (.ref b5)])) _
    refine XS.lloadN X7.here hx rfl (hb hby at_29) rfl ?_
    show Steps p.tables e below (T7.setTop (mkF m 30 #[.val (.int p1), .val (.int p2), .val (.int p3), .val (.long q4), .second, .val (.int (p1 &&& (7 : Int32))), .val (.ref b5), .unset, .unset, .unset, .unset, .unset, .unset] [(.long q4), (.int (2 : Int32)), (.ref b5)])) _
    refine st8 _ ?_
    show Steps p.tables e below (T8.setTop (mkF m 33 #[.val (.int p1), .val (.int p2), .val (.int p3), .val (.long q4), .second, .val (.int (p1 &&& (7 : Int32))), .val (.ref b5), .unset, .unset, .unset, .unset, .unset, .unset] [])) _
    refine XS.aload X8.here hx rfl (hb hby at_33) rfl rfl ?_
    show Steps p.tables e below (T8.setTop (mkF m 35 #[.val (.int p1), .val (.int p2), .val (.int p3), .val (.long q4), .second, .val (.int (p1 &&& (7 : Int32))), .val (.ref b5), .unset, .unset, .unset, .unset, .unset, .unset] [(.ref b5)])) _
    refine XS.iconst X8.here hx rfl (hb hby at_35) ?_
    show Steps p.tables e below (T8.setTop (mkF m 36 #[.val (.int p1), .val (.int p2), .val (.int p3), .val (.long q4), .second, .val (.int (p1 &&& (7 : Int32))), .val (.ref b5), .unset, .unset, .unset, .unset, .unset, .unset] [(.int (3 : Int32)), (.ref b5)])) _
    refine XS.lloadN X8.here hx rfl (hb hby at_36) rfl ?_
    show Steps p.tables e below (T8.setTop (mkF m 37 #[.val (.int p1), .val (.int p2), .val (.int p3), .val (.long q4), .second, .val (.int (p1 &&& (7 : Int32))), .val (.ref b5), .unset, .unset, .unset, .unset, .unset, .unset] [(.long q4), (.int (3 : Int32)), (.ref b5)])) _
    refine st9 _ ?_
    show Steps p.tables e below (T9.setTop (mkF m 40 #[.val (.int p1), .val (.int p2), .val (.int p3), .val (.long q4), .second, .val (.int (p1 &&& (7 : Int32))), .val (.ref b5), .unset, .unset, .unset, .unset, .unset, .unset] [])) _
    refine XS.aload X9.here hx rfl (hb hby at_40) rfl rfl ?_
    show Steps p.tables e below (T9.setTop (mkF m 42 #[.val (.int p1), .val (.int p2), .val (.int p3), .val (.long q4), .second, .val (.int (p1 &&& (7 : Int32))), .val (.ref b5), .unset, .unset, .unset, .unset, .unset, .unset] [(.ref b5)])) _
    refine XS.iconst X9.here hx rfl (hb hby at_42) ?_
    show Steps p.tables e below (T9.setTop (mkF m 43 #[.val (.int p1), .val (.int p2), .val (.int p3), .val (.long q4), .second, .val (.int (p1 &&& (7 : Int32))), .val (.ref b5), .unset, .unset, .unset, .unset, .unset, .unset] [(.int (4 : Int32)), (.ref b5)])) _
    refine XS.lloadN X9.here hx rfl (hb hby at_43) rfl ?_
    show Steps p.tables e below (T9.setTop (mkF m 44 #[.val (.int p1), .val (.int p2), .val (.int p3), .val (.long q4), .second, .val (.int (p1 &&& (7 : Int32))), .val (.ref b5), .unset, .unset, .unset, .unset, .unset, .unset] [(.long q4), (.int (4 : Int32)), (.ref b5)])) _
    refine st10 _ ?_
    show Steps p.tables e below (T10.setTop (mkF m 47 #[.val (.int p1), .val (.int p2), .val (.int p3), .val (.long q4), .second, .val (.int (p1 &&& (7 : Int32))), .val (.ref b5), .unset, .unset, .unset, .unset, .unset, .unset] [])) _
    refine XS.aload X10.here hx rfl (hb hby at_47) rfl rfl ?_
    show Steps p.tables e below (T10.setTop (mkF m 49 #[.val (.int p1), .val (.int p2), .val (.int p3), .val (.long q4), .second, .val (.int (p1 &&& (7 : Int32))), .val (.ref b5), .unset, .unset, .unset, .unset, .unset, .unset] [(.ref b5)])) _
    refine XS.iconst X10.here hx rfl (hb hby at_49) ?_
    show Steps p.tables e below (T10.setTop (mkF m 50 #[.val (.int p1), .val (.int p2), .val (.int p3), .val (.long q4), .second, .val (.int (p1 &&& (7 : Int32))), .val (.ref b5), .unset, .unset, .unset, .unset, .unset, .unset] [(.int (5 : Int32)), (.ref b5)])) _
    refine XS.lloadN X10.here hx rfl (hb hby at_50) rfl ?_
    show Steps p.tables e below (T10.setTop (mkF m 51 #[.val (.int p1), .val (.int p2), .val (.int p3), .val (.long q4), .second, .val (.int (p1 &&& (7 : Int32))), .val (.ref b5), .unset, .unset, .unset, .unset, .unset, .unset] [(.long q4), (.int (5 : Int32)), (.ref b5)])) _
    refine st11 _ ?_
    show Steps p.tables e below (T11.setTop (mkF m 54 #[.val (.int p1), .val (.int p2), .val (.int p3), .val (.long q4), .second, .val (.int (p1 &&& (7 : Int32))), .val (.ref b5), .unset, .unset, .unset, .unset, .unset, .unset] [])) _
    refine XS.aload X11.here hx rfl (hb hby at_54) rfl rfl ?_
    show Steps p.tables e below (T11.setTop (mkF m 56 #[.val (.int p1), .val (.int p2), .val (.int p3), .val (.long q4), .second, .val (.int (p1 &&& (7 : Int32))), .val (.ref b5), .unset, .unset, .unset, .unset, .unset, .unset] [(.ref b5)])) _
    refine XS.bipush X11.here hx rfl (hb hby at_56) ?_
    show Steps p.tables e below (T11.setTop (mkF m 58 #[.val (.int p1), .val (.int p2), .val (.int p3), .val (.long q4), .second, .val (.int (p1 &&& (7 : Int32))), .val (.ref b5), .unset, .unset, .unset, .unset, .unset, .unset] [(.int (6 : Int32)), (.ref b5)])) _
    refine XS.lloadN X11.here hx rfl (hb hby at_58) rfl ?_
    show Steps p.tables e below (T11.setTop (mkF m 59 #[.val (.int p1), .val (.int p2), .val (.int p3), .val (.long q4), .second, .val (.int (p1 &&& (7 : Int32))), .val (.ref b5), .unset, .unset, .unset, .unset, .unset, .unset] [(.long q4), (.int (6 : Int32)), (.ref b5)])) _
    refine st12 _ ?_
    show Steps p.tables e below (T12.setTop (mkF m 62 #[.val (.int p1), .val (.int p2), .val (.int p3), .val (.long q4), .second, .val (.int (p1 &&& (7 : Int32))), .val (.ref b5), .unset, .unset, .unset, .unset, .unset, .unset] [])) _
    refine st13 _ ?_
    show Steps p.tables e below (T13.setTop (mkF m 65 #[.val (.int p1), .val (.int p2), .val (.int p3), .val (.long q4), .second, .val (.int (p1 &&& (7 : Int32))), .val (.ref b5), .unset, .unset, .unset, .unset, .unset, .unset] [(.ref b13)])) _
    refine XS.dup X13.here hx rfl (hb hby at_65) rfl rfl ?_
    show Steps p.tables e below (T13.setTop (mkF m 66 #[.val (.int p1), .val (.int p2), .val (.int p3), .val (.long q4), .second, .val (.int (p1 &&& (7 : Int32))), .val (.ref b5), .unset, .unset, .unset, .unset, .unset, .unset] [(.ref b13), (.ref b13)])) _
    refine XS.aload X13.here hx rfl (hb hby at_66) rfl rfl ?_
    show Steps p.tables e below (T13.setTop (mkF m 68 #[.val (.int p1), .val (.int p2), .val (.int p3), .val (.long q4), .second, .val (.int (p1 &&& (7 : Int32))), .val (.ref b5), .unset, .unset, .unset, .unset, .unset, .unset] [(.ref b5), (.ref b13), (.ref b13)])) _
    refine st14.trans ?_
    show Steps p.tables e below (T14.setTop (mkF m 71 #[.val (.int p1), .val (.int p2), .val (.int p3), .val (.long q4), .second, .val (.int (p1 &&& (7 : Int32))), .val (.ref b5), .unset, .unset, .unset, .unset, .unset, .unset] [(.ref b13)])) _
    refine XS.astore X14.here hx rfl (hb hby at_71) rfl rfl (l' := #[.val (.int p1), .val (.int p2), .val (.int p3), .val (.long q4), .second, .val (.int (p1 &&& (7 : Int32))), .val (.ref b5), .val (.ref b13), .unset, .unset, .unset, .unset, .unset]) rfl ?_
    show Steps p.tables e below (T14.setTop (mkF m 73 #[.val (.int p1), .val (.int p2), .val (.int p3), .val (.long q4), .second, .val (.int (p1 &&& (7 : Int32))), .val (.ref b5), .val (.ref b13), .unset, .unset, .unset, .unset, .unset] [])) _
    refine XS.aload X14.here hx rfl (hb hby at_73) rfl rfl ?_
    show Steps p.tables e below (T14.setTop (mkF m 75 #[.val (.int p1), .val (.int p2), .val (.int p3), .val (.long q4), .second, .val (.int (p1 &&& (7 : Int32))), .val (.ref b5), .val (.ref b13), .unset, .unset, .unset, .unset, .unset] [(.ref b13)])) _
    refine st15.trans ?_
    show Steps p.tables e below (T15.setTop (mkF m 78 #[.val (.int p1), .val (.int p2), .val (.int p3), .val (.long q4), .second, .val (.int (p1 &&& (7 : Int32))), .val (.ref b5), .val (.ref b13), .unset, .unset, .unset, .unset, .unset] [(.int (fv5 (0 : Int32) (p1 &&& (7 : Int32))))])) _
    refine XS.istore X15.here hx rfl (hb hby at_78) rfl (l' := #[.val (.int p1), .val (.int p2), .val (.int p3), .val (.long q4), .second, .val (.int (p1 &&& (7 : Int32))), .val (.ref b5), .val (.ref b13), .val (.int (fv5 (0 : Int32) (p1 &&& (7 : Int32)))), .unset, .unset, .unset, .unset]) rfl ?_
    show Steps p.tables e below (T15.setTop (mkF m 80 #[.val (.int p1), .val (.int p2), .val (.int p3), .val (.long q4), .second, .val (.int (p1 &&& (7 : Int32))), .val (.ref b5), .val (.ref b13), .val (.int (fv5 (0 : Int32) (p1 &&& (7 : Int32)))), .unset, .unset, .unset, .unset] [])) _
    refine XS.iload X15.here hx rfl (hb hby at_80) rfl ?_
    show Steps p.tables e below (T15.setTop (mkF m 82 #[.val (.int p1), .val (.int p2), .val (.int p3), .val (.long q4), .second, .val (.int (p1 &&& (7 : Int32))), .val (.ref b5), .val (.ref b13), .val (.int (fv5 (0 : Int32) (p1 &&& (7 : Int32)))), .unset, .unset, .unset, .unset] [(.int (fv5 (0 : Int32) (p1 &&& (7 : Int32))))])) _
    refine XS.iload X15.here hx rfl (hb hby at_82) rfl ?_
    show Steps p.tables e below (T15.setTop (mkF m 84 #[.val (.int p1), .val (.int p2), .val (.int p3), .val (.long q4), .second, .val (.int (p1 &&& (7 : Int32))), .val (.ref b5), .val (.ref b13), .val (.int (fv5 (0 : Int32) (p1 &&& (7 : Int32)))), .unset, .unset, .unset, .unset] [(.int (p1 &&& (7 : Int32))), (.int (fv5 (0 : Int32) (p1 &&& (7 : Int32))))])) _
    refine XS.ifNo X15.here hx rfl (hb hby at_84) rfl ((if0 _ _).trans (tlt hc84).2.2.2) ?_
    show Steps p.tables e below (T15.setTop (mkF m 87 #[.val (.int p1), .val (.int p2), .val (.int p3), .val (.long q4), .second, .val (.int (p1 &&& (7 : Int32))), .val (.ref b5), .val (.ref b13), .val (.int (fv5 (0 : Int32) (p1 &&& (7 : Int32)))), .unset, .unset, .unset, .unset] [(.int (fv5 (0 : Int32) (p1 &&& (7 : Int32))))])) _
    refine XS.iconst X15.here hx rfl (hb hby at_87) ?_
    show Steps p.tables e below (T15.setTop (mkF m 88 #[.val (.int p1), .val (.int p2), .val (.int p3), .val (.long q4), .second, .val (.int (p1 &&& (7 : Int32))), .val (.ref b5), .val (.ref b13), .val (.int (fv5 (0 : Int32) (p1 &&& (7 : Int32)))), .unset, .unset, .unset, .unset] [(.int (1 : Int32)), (.int (fv5 (0 : Int32) (p1 &&& (7 : Int32))))])) _
    refine XS.goto X15.here hx rfl (pc0 := 88) (pc' := 92) rfl (hb hby at_88) (by decide) (by decide) ?_
    show Steps p.tables e below (T15.setTop (mkF m 92 #[.val (.int p1), .val (.int p2), .val (.int p3), .val (.long q4), .second, .val (.int (p1 &&& (7 : Int32))), .val (.ref b5), .val (.ref b13), .val (.int (fv5 (0 : Int32) (p1 &&& (7 : Int32)))), .unset, .unset, .unset, .unset] [(.int (1 : Int32)), (.int (fv5 (0 : Int32) (p1 &&& (7 : Int32))))])) _
    refine XS.icmpYes X15.here hx rfl (pc0 := 92) (pc' := 97) rfl (hb hby at_92) rfl (teq hc92).1 (by decide) (by decide) ?_
    show Steps p.tables e below (T15.setTop (mkF m 97 #[.val (.int p1), .val (.int p2), .val (.int p3), .val (.long q4), .second, .val (.int (p1 &&& (7 : Int32))), .val (.ref b5), .val (.ref b13), .val (.int (fv5 (0 : Int32) (p1 &&& (7 : Int32)))), .unset, .unset, .unset, .unset] [])) _
    refine XS.aload X15.here hx rfl (hb hby at_97) rfl rfl ?_
    show Steps p.tables e below (T15.setTop (mkF m 99 #[.val (.int p1), .val (.int p2), .val (.int p3), .val (.long q4), .second, .val (.int (p1 &&& (7 : Int32))), .val (.ref b5), .val (.ref b13), .val (.int (fv5 (0 : Int32) (p1 &&& (7 : Int32)))), .unset, .unset, .unset, .unset] [(.ref b13)])) _
    refine st16.trans ?_
    show Steps p.tables e below (T16.setTop (mkF m 102 #[.val (.int p1), .val (.int p2), .val (.int p3), .val (.long q4), .second, .val (.int (p1 &&& (7 : Int32))), .val (.ref b5), .val (.ref b13), .val (.int (fv5 (0 : Int32) (p1 &&& (7 : Int32)))), .unset, .unset, .unset, .unset] [(.int (fv5 (0 : Int32) (p1 &&& (7 : Int32))))])) _
    refine XS.iload X16.here hx rfl (hb hby at_102) rfl ?_
    show Steps p.tables e below (T16.setTop (mkF m 104 #[.val (.int p1), .val (.int p2), .val (.int p3), .val (.long q4), .second, .val (.int (p1 &&& (7 : Int32))), .val (.ref b5), .val (.ref b13), .val (.int (fv5 (0 : Int32) (p1 &&& (7 : Int32)))), .unset, .unset, .unset, .unset] [(.int (fv5 (0 : Int32) (p1 &&& (7 : Int32)))), (.int (fv5 (0 : Int32) (p1 &&& (7 : Int32))))])) _
    refine XS.icmpYes X16.here hx rfl (pc0 := 104) (pc' := 109) rfl (hb hby at_104) rfl (teq (rfl : (fv5 (0 : Int32) (p1 &&& (7 : Int32))) = (fv5 (0 : Int32) (p1 &&& (7 : Int32))))).1 (by decide) (by decide) ?_
    show Steps p.tables e below (T16.setTop (mkF m 109 #[.val (.int p1), .val (.int p2), .val (.int p3), .val (.long q4), .second, .val (.int (p1 &&& (7 : Int32))), .val (.ref b5), .val (.ref b13), .val (.int (fv5 (0 : Int32) (p1 &&& (7 : Int32)))), .unset, .unset, .unset, .unset] [])) _
    refine XS.iload X16.here hx rfl (hb hby at_109) rfl ?_
    show Steps p.tables e below (T16.setTop (mkF m 111 #[.val (.int p1), .val (.int p2), .val (.int p3), .val (.long q4), .second, .val (.int (p1 &&& (7 : Int32))), .val (.ref b5), .val (.ref b13), .val (.int (fv5 (0 : Int32) (p1 &&& (7 : Int32)))), .unset, .unset, .unset, .unset] [(.int (p1 &&& (7 : Int32)))])) _
    refine XS.iconst X16.here hx rfl (hb hby at_111) ?_
    show Steps p.tables e below (T16.setTop (mkF m 112 #[.val (.int p1), .val (.int p2), .val (.int p3), .val (.long q4), .second, .val (.int (p1 &&& (7 : Int32))), .val (.ref b5), .val (.ref b13), .val (.int (fv5 (0 : Int32) (p1 &&& (7 : Int32)))), .unset, .unset, .unset, .unset] [(.int (2 : Int32)), (.int (p1 &&& (7 : Int32)))])) _
    refine XS.icmpYes X16.here hx rfl (pc0 := 112) (pc' := 117) rfl (hb hby at_112) rfl (flt hc112).2.1 (by decide) (by decide) ?_
    show Steps p.tables e below (T16.setTop (mkF m 117 #[.val (.int p1), .val (.int p2), .val (.int p3), .val (.long q4), .second, .val (.int (p1 &&& (7 : Int32))), .val (.ref b5), .val (.ref b13), .val (.int (fv5 (0 : Int32) (p1 &&& (7 : Int32)))), .unset, .unset, .unset, .unset] [])) _
    refine XS.iloadN X16.here hx rfl (hb hby at_117) rfl ?_
    show Steps p.tables e below (T16.setTop (mkF m 118 #[.val (.int p1), .val (.int p2), .val (.int p3), .val (.long q4), .second, .val (.int (p1 &&& (7 : Int32))), .val (.ref b5), .val (.ref b13), .val (.int (fv5 (0 : Int32) (p1 &&& (7 : Int32)))), .unset, .unset, .unset, .unset] [(.int p2)])) _
    refine X16.ldcInt hx hown (mvT hZ (hw _ (List.mem_of_getElem? (i := 28) rfl))) (g := (mkF m 118 #[.val (.int p1), .val (.int p2), .val (.int p3), .val (.long q4), .second, .val (.int (p1 &&& (7 : Int32))), .val (.ref b5), .val (.ref b13), .val (.int (fv5 (0 : Int32) (p1 &&& (7 : Int32)))), .unset, .unset, .unset, .unset] [(.int p2)])) rfl (hb hby at_118) _ ?_
    show Steps p.tables e below (T16.setTop (mkF m 120 #[.val (.int p1), .val (.int p2), .val (.int p3), .val (.long q4), .second, .val (.int (p1 &&& (7 : Int32))), .val (.ref b5), .val (.ref b13), .val (.int (fv5 (0 : Int32) (p1 &&& (7 : Int32)))), .unset, .unset, .unset, .unset] [(.int (2147483647 : Int32)), (.int p2)])) _
    refine XS.iand X16.here hx rfl (hb hby at_120) rfl ?_
    show Steps p.tables e below (T16.setTop (mkF m 121 #[.val (.int p1), .val (.int p2), .val (.int p3), .val (.long q4), .second, .val (.int (p1 &&& (7 : Int32))), .val (.ref b5), .val (.ref b13), .val (.int (fv5 (0 : Int32) (p1 &&& (7 : Int32)))), .unset, .unset, .unset, .unset] [(.int (p2 &&& (2147483647 : Int32)))])) _
    refine XS.iload X16.here hx rfl (hb hby at_121) rfl ?_
    show Steps p.tables e below (T16.setTop (mkF m 123 #[.val (.int p1), .val (.int p2), .val (.int p3), .val (.long q4), .second, .val (.int (p1 &&& (7 : Int32))), .val (.ref b5), .val (.ref b13), .val (.int (fv5 (0 : Int32) (p1 &&& (7 : Int32)))), .unset, .unset, .unset, .unset] [(.int (p1 &&& (7 : Int32))), (.int (p2 &&& (2147483647 : Int32)))])) _
    refine XS.iconst X16.here hx rfl (hb hby at_123) ?_
    show Steps p.tables e below (T16.setTop (mkF m 124 #[.val (.int p1), .val (.int p2), .val (.int p3), .val (.long q4), .second, .val (.int (p1 &&& (7 : Int32))), .val (.ref b5), .val (.ref b13), .val (.int (fv5 (0 : Int32) (p1 &&& (7 : Int32)))), .unset, .unset, .unset, .unset] [(.int (1 : Int32)), (.int (p1 &&& (7 : Int32))), (.int (p2 &&& (2147483647 : Int32)))])) _
    refine XS.isub X16.here hx rfl (hb hby at_124) rfl ?_
    show Steps p.tables e below (T16.setTop (mkF m 125 #[.val (.int p1), .val (.int p2), .val (.int p3), .val (.long q4), .second, .val (.int (p1 &&& (7 : Int32))), .val (.ref b5), .val (.ref b13), .val (.int (fv5 (0 : Int32) (p1 &&& (7 : Int32)))), .unset, .unset, .unset, .unset] [(.int ((p1 &&& (7 : Int32)) - (1 : Int32))), (.int (p2 &&& (2147483647 : Int32)))])) _
    refine own_irem X16.here hx rfl (hb hby at_125) rfl hnz125 ?_
    show Steps p.tables e below (T16.setTop (mkF m 126 #[.val (.int p1), .val (.int p2), .val (.int p3), .val (.long q4), .second, .val (.int (p1 &&& (7 : Int32))), .val (.ref b5), .val (.ref b13), .val (.int (fv5 (0 : Int32) (p1 &&& (7 : Int32)))), .unset, .unset, .unset, .unset] [(.int ((p2 &&& (2147483647 : Int32)) % ((p1 &&& (7 : Int32)) - (1 : Int32))))])) _
    refine XS.istore X16.here hx rfl (hb hby at_126) rfl (l' := #[.val (.int p1), .val (.int p2), .val (.int p3), .val (.long q4), .second, .val (.int (p1 &&& (7 : Int32))), .val (.ref b5), .val (.ref b13), .val (.int (fv5 (0 : Int32) (p1 &&& (7 : Int32)))), .val (.int ((p2 &&& (2147483647 : Int32)) % ((p1 &&& (7 : Int32)) - (1 : Int32)))), .unset, .unset, .unset]) rfl ?_
    show Steps p.tables e below (T16.setTop (mkF m 128 #[.val (.int p1), .val (.int p2), .val (.int p3), .val (.long q4), .second, .val (.int (p1 &&& (7 : Int32))), .val (.ref b5), .val (.ref b13), .val (.int (fv5 (0 : Int32) (p1 &&& (7 : Int32)))), .val (.int ((p2 &&& (2147483647 : Int32)) % ((p1 &&& (7 : Int32)) - (1 : Int32)))), .unset, .unset, .unset] [])) _
    refine XS.iloadN X16.here hx rfl (hb hby at_128) rfl ?_
    show Steps p.tables e below (T16.setTop (mkF m 129 #[.val (.int p1), .val (.int p2), .val (.int p3), .val (.long q4), .second, .val (.int (p1 &&& (7 : Int32))), .val (.ref b5), .val (.ref b13), .val (.int (fv5 (0 : Int32) (p1 &&& (7 : Int32)))), .val (.int ((p2 &&& (2147483647 : Int32)) % ((p1 &&& (7 : Int32)) - (1 : Int32)))), .unset, .unset, .unset] [(.int p3)])) _
    refine X16.ldcInt hx hown (mvT hZ (hw _ (List.mem_of_getElem? (i := 28) rfl))) (g := (mkF m 129 #[.val (.int p1), .val (.int p2), .val (.int p3), .val (.long q4), .second, .val (.int (p1 &&& (7 : Int32))), .val (.ref b5), .val (.ref b13), .val (.int (fv5 (0 : Int32) (p1 &&& (7 : Int32)))), .val (.int ((p2 &&& (2147483647 : Int32)) % ((p1 &&& (7 : Int32)) - (1 : Int32)))), .unset, .unset, .unset] [(.int p3)])) rfl (hb hby at_129) _ ?_
    show Steps p.tables e below (T16.setTop (mkF m 131 #[.val (.int p1), .val (.int p2), .val (.int p3), .val (.long q4), .second, .val (.int (p1 &&& (7 : Int32))), .val (.ref b5), .val (.ref b13), .val (.int (fv5 (0 : Int32) (p1 &&& (7 : Int32)))), .val (.int ((p2 &&& (2147483647 : Int32)) % ((p1 &&& (7 : Int32)) - (1 : Int32)))), .unset, .unset, .unset] [(.int (2147483647 : Int32)), (.int p3)])) _
    refine XS.iand X16.here hx rfl (hb hby at_131) rfl ?_
    show Steps p.tables e below (T16.setTop (mkF m 132 #[.val (.int p1), .val (.int p2), .val (.int p3), .val (.long q4), .second, .val (.int (p1 &&& (7 : Int32))), .val (.ref b5), .val (.ref b13), .val (.int (fv5 (0 : Int32) (p1 &&& (7 : Int32)))), .val (.int ((p2 &&& (2147483647 : Int32)) % ((p1 &&& (7 : Int32)) - (1 : Int32)))), .unset, .unset, .unset] [(.int (p3 &&& (2147483647 : Int32)))])) _
    refine XS.bipush X16.here hx rfl (hb hby at_132) ?_
    show Steps p.tables e below (T16.setTop (mkF m 134 #[.val (.int p1), .val (.int p2), .val (.int p3), .val (.long q4), .second, .val (.int (p1 &&& (7 : Int32))), .val (.ref b5), .val (.ref b13), .val (.int (fv5 (0 : Int32) (p1 &&& (7 : Int32)))), .val (.int ((p2 &&& (2147483647 : Int32)) % ((p1 &&& (7 : Int32)) - (1 : Int32)))), .unset, .unset, .unset] [(.int (30 : Int32)), (.int (p3 &&& (2147483647 : Int32)))])) _
    refine own_irem X16.here hx rfl (hb hby at_134) rfl hnz134 ?_
    show Steps p.tables e below (T16.setTop (mkF m 135 #[.val (.int p1), .val (.int p2), .val (.int p3), .val (.long q4), .second, .val (.int (p1 &&& (7 : Int32))), .val (.ref b5), .val (.ref b13), .val (.int (fv5 (0 : Int32) (p1 &&& (7 : Int32)))), .val (.int ((p2 &&& (2147483647 : Int32)) % ((p1 &&& (7 : Int32)) - (1 : Int32)))), .unset, .unset, .unset] [(.int ((p3 &&& (2147483647 : Int32)) % (30 : Int32)))])) _
    refine XS.iconst X16.here hx rfl (hb hby at_135) ?_
    show Steps p.tables e below (T16.setTop (mkF m 136 #[.val (.int p1), .val (.int p2), .val (.int p3), .val (.long q4), .second, .val (.int (p1 &&& (7 : Int32))), .val (.ref b5), .val (.ref b13), .val (.int (fv5 (0 : Int32) (p1 &&& (7 : Int32)))), .val (.int ((p2 &&& (2147483647 : Int32)) % ((p1 &&& (7 : Int32)) - (1 : Int32)))), .unset, .unset, .unset] [(.int (1 : Int32)), (.int ((p3 &&& (2147483647 : Int32)) % (30 : Int32)))])) _
    refine XS.iadd X16.here hx rfl (hb hby at_136) rfl ?_
    show Steps p.tables e below (T16.setTop (mkF m 137 #[.val (.int p1), .val (.int p2), .val (.int p3), .val (.long q4), .second, .val (.int (p1 &&& (7 : Int32))), .val (.ref b5), .val (.ref b13), .val (.int (fv5 (0 : Int32) (p1 &&& (7 : Int32)))), .val (.int ((p2 &&& (2147483647 : Int32)) % ((p1 &&& (7 : Int32)) - (1 : Int32)))), .unset, .unset, .unset] [(.int (((p3 &&& (2147483647 : Int32)) % (30 : Int32)) + (1 : Int32)))])) _
    refine XS.iloadN X16.here hx rfl (hb hby at_137) rfl ?_
    show Steps p.tables e below (T16.setTop (mkF m 138 #[.val (.int p1), .val (.int p2), .val (.int p3), .val (.long q4), .second, .val (.int (p1 &&& (7 : Int32))), .val (.ref b5), .val (.ref b13), .val (.int (fv5 (0 : Int32) (p1 &&& (7 : Int32)))), .val (.int ((p2 &&& (2147483647 : Int32)) % ((p1 &&& (7 : Int32)) - (1 : Int32)))), .unset, .unset, .unset] [(.int p3), (.int (((p3 &&& (2147483647 : Int32)) % (30 : Int32)) + (1 : Int32)))])) _
    refine XS.bipush X16.here hx rfl (hb hby at_138) ?_
    show Steps p.tables e below (T16.setTop (mkF m 140 #[.val (.int p1), .val (.int p2), .val (.int p3), .val (.long q4), .second, .val (.int (p1 &&& (7 : Int32))), .val (.ref b5), .val (.ref b13), .val (.int (fv5 (0 : Int32) (p1 &&& (7 : Int32)))), .val (.int ((p2 &&& (2147483647 : Int32)) % ((p1 &&& (7 : Int32)) - (1 : Int32)))), .unset, .unset, .unset] [(.int (8 : Int32)), (.int p3), (.int (((p3 &&& (2147483647 : Int32)) % (30 : Int32)) + (1 : Int32)))])) _
    refine XS.iushr X16.here hx rfl (hb hby at_140) rfl ?_
    show Steps p.tables e below (T16.setTop (mkF m 141 #[.val (.int p1), .val (.int p2), .val (.int p3), .val (.long q4), .second, .val (.int (p1 &&& (7 : Int32))), .val (.ref b5), .val (.ref b13), .val (.int (fv5 (0 : Int32) (p1 &&& (7 : Int32)))), .val (.int ((p2 &&& (2147483647 : Int32)) % ((p1 &&& (7 : Int32)) - (1 : Int32)))), .unset, .unset, .unset] [(.int ((p3.toUInt32 >>> ((8 : Int32) &&& 31).toUInt32).toInt32)), (.int (((p3 &&& (2147483647 : Int32)) % (30 : Int32)) + (1 : Int32)))])) _
    refine XS.iconst X16.here hx rfl (hb hby at_141) ?_
    show Steps p.tables e below (T16.setTop (mkF m 142 #[.val (.int p1), .val (.int p2), .val (.int p3), .val (.long q4), .second, .val (.int (p1 &&& (7 : Int32))), .val (.ref b5), .val (.ref b13), .val (.int (fv5 (0 : Int32) (p1 &&& (7 : Int32)))), .val (.int ((p2 &&& (2147483647 : Int32)) % ((p1 &&& (7 : Int32)) - (1 : Int32)))), .unset, .unset, .unset] [(.int (3 : Int32)), (.int ((p3.toUInt32 >>> ((8 : Int32) &&& 31).toUInt32).toInt32)), (.int (((p3 &&& (2147483647 : Int32)) % (30 : Int32)) + (1 : Int32)))])) _
    refine XS.iand X16.here hx rfl (hb hby at_142) rfl ?_
    show Steps p.tables e below (T16.setTop (mkF m 143 #[.val (.int p1), .val (.int p2), .val (.int p3), .val (.long q4), .second, .val (.int (p1 &&& (7 : Int32))), .val (.ref b5), .val (.ref b13), .val (.int (fv5 (0 : Int32) (p1 &&& (7 : Int32)))), .val (.int ((p2 &&& (2147483647 : Int32)) % ((p1 &&& (7 : Int32)) - (1 : Int32)))), .unset, .unset, .unset] [(.int (((p3.toUInt32 >>> ((8 : Int32) &&& 31).toUInt32).toInt32) &&& (3 : Int32))), (.int (((p3 &&& (2147483647 : Int32)) % (30 : Int32)) + (1 : Int32)))])) _
    refine XS.bipush X16.here hx rfl (hb hby at_143) ?_
    show Steps p.tables e below (T16.setTop (mkF m 145 #[.val (.int p1), .val (.int p2), .val (.int p3), .val (.long q4), .second, .val (.int (p1 &&& (7 : Int32))), .val (.ref b5), .val (.ref b13), .val (.int (fv5 (0 : Int32) (p1 &&& (7 : Int32)))), .val (.int ((p2 &&& (2147483647 : Int32)) % ((p1 &&& (7 : Int32)) - (1 : Int32)))), .unset, .unset, .unset] [(.int (6 : Int32)), (.int (((p3.toUInt32 >>> ((8 : Int32) &&& 31).toUInt32).toInt32) &&& (3 : Int32))), (.int (((p3 &&& (2147483647 : Int32)) % (30 : Int32)) + (1 : Int32)))])) _
    refine XS.ishl X16.here hx rfl (hb hby at_145) rfl ?_
    show Steps p.tables e below (T16.setTop (mkF m 146 #[.val (.int p1), .val (.int p2), .val (.int p3), .val (.long q4), .second, .val (.int (p1 &&& (7 : Int32))), .val (.ref b5), .val (.ref b13), .val (.int (fv5 (0 : Int32) (p1 &&& (7 : Int32)))), .val (.int ((p2 &&& (2147483647 : Int32)) % ((p1 &&& (7 : Int32)) - (1 : Int32)))), .unset, .unset, .unset] [(.int ((((p3.toUInt32 >>> ((8 : Int32) &&& 31).toUInt32).toInt32) &&& (3 : Int32)) <<< ((6 : Int32) &&& 31))), (.int (((p3 &&& (2147483647 : Int32)) % (30 : Int32)) + (1 : Int32)))])) _
    refine XS.ior X16.here hx rfl (hb hby at_146) rfl ?_
    show Steps p.tables e below (T16.setTop (mkF m 147 #[.val (.int p1), .val (.int p2), .val (.int p3), .val (.long q4), .second, .val (.int (p1 &&& (7 : Int32))), .val (.ref b5), .val (.ref b13), .val (.int (fv5 (0 : Int32) (p1 &&& (7 : Int32)))), .val (.int ((p2 &&& (2147483647 : Int32)) % ((p1 &&& (7 : Int32)) - (1 : Int32)))), .unset, .unset, .unset] [(.int ((((p3 &&& (2147483647 : Int32)) % (30 : Int32)) + (1 : Int32)) ||| ((((p3.toUInt32 >>> ((8 : Int32) &&& 31).toUInt32).toInt32) &&& (3 : Int32)) <<< ((6 : Int32) &&& 31))))])) _
    refine XS.iloadN X16.here hx rfl (hb hby at_147) rfl ?_
    show Steps p.tables e below (T16.setTop (mkF m 148 #[.val (.int p1), .val (.int p2), .val (.int p3), .val (.long q4), .second, .val (.int (p1 &&& (7 : Int32))), .val (.ref b5), .val (.ref b13), .val (.int (fv5 (0 : Int32) (p1 &&& (7 : Int32)))), .val (.int ((p2 &&& (2147483647 : Int32)) % ((p1 &&& (7 : Int32)) - (1 : Int32)))), .unset, .unset, .unset] [(.int p3), (.int ((((p3 &&& (2147483647 : Int32)) % (30 : Int32)) + (1 : Int32)) ||| ((((p3.toUInt32 >>> ((8 : Int32) &&& 31).toUInt32).toInt32) &&& (3 : Int32)) <<< ((6 : Int32) &&& 31))))])) _
    refine XS.bipush X16.here hx rfl (hb hby at_148) ?_
    show Steps p.tables e below (T16.setTop (mkF m 150 #[.val (.int p1), .val (.int p2), .val (.int p3), .val (.long q4), .second, .val (.int (p1 &&& (7 : Int32))), .val (.ref b5), .val (.ref b13), .val (.int (fv5 (0 : Int32) (p1 &&& (7 : Int32)))), .val (.int ((p2 &&& (2147483647 : Int32)) % ((p1 &&& (7 : Int32)) - (1 : Int32)))), .unset, .unset, .unset] [(.int (10 : Int32)), (.int p3), (.int ((((p3 &&& (2147483647 : Int32)) % (30 : Int32)) + (1 : Int32)) ||| ((((p3.toUInt32 >>> ((8 : Int32) &&& 31).toUInt32).toInt32) &&& (3 : Int32)) <<< ((6 : Int32) &&& 31))))])) _
    refine XS.iushr X16.here hx rfl (hb hby at_150) rfl ?_
    show Steps p.tables e below (T16.setTop (mkF m 151 #[.val (.int p1), .val (.int p2), .val (.int p3), .val (.long q4), .second, .val (.int (p1 &&& (7 : Int32))), .val (.ref b5), .val (.ref b13), .val (.int (fv5 (0 : Int32) (p1 &&& (7 : Int32)))), .val (.int ((p2 &&& (2147483647 : Int32)) % ((p1 &&& (7 : Int32)) - (1 : Int32)))), .unset, .unset, .unset] [(.int ((p3.toUInt32 >>> ((10 : Int32) &&& 31).toUInt32).toInt32)), (.int ((((p3 &&& (2147483647 : Int32)) % (30 : Int32)) + (1 : Int32)) ||| ((((p3.toUInt32 >>> ((8 : Int32) &&& 31).toUInt32).toInt32) &&& (3 : Int32)) <<< ((6 : Int32) &&& 31))))])) _
    refine XS.iconst X16.here hx rfl (hb hby at_151) ?_
    show Steps p.tables e below (T16.setTop (mkF m 152 #[.val (.int p1), .val (.int p2), .val (.int p3), .val (.long q4), .second, .val (.int (p1 &&& (7 : Int32))), .val (.ref b5), .val (.ref b13), .val (.int (fv5 (0 : Int32) (p1 &&& (7 : Int32)))), .val (.int ((p2 &&& (2147483647 : Int32)) % ((p1 &&& (7 : Int32)) - (1 : Int32)))), .unset, .unset, .unset] [(.int (1 : Int32)), (.int ((p3.toUInt32 >>> ((10 : Int32) &&& 31).toUInt32).toInt32)), (.int ((((p3 &&& (2147483647 : Int32)) % (30 : Int32)) + (1 : Int32)) ||| ((((p3.toUInt32 >>> ((8 : Int32) &&& 31).toUInt32).toInt32) &&& (3 : Int32)) <<< ((6 : Int32) &&& 31))))])) _
    refine XS.iand X16.here hx rfl (hb hby at_152) rfl ?_
    show Steps p.tables e below (T16.setTop (mkF m 153 #[.val (.int p1), .val (.int p2), .val (.int p3), .val (.long q4), .second, .val (.int (p1 &&& (7 : Int32))), .val (.ref b5), .val (.ref b13), .val (.int (fv5 (0 : Int32) (p1 &&& (7 : Int32)))), .val (.int ((p2 &&& (2147483647 : Int32)) % ((p1 &&& (7 : Int32)) - (1 : Int32)))), .unset, .unset, .unset] [(.int (((p3.toUInt32 >>> ((10 : Int32) &&& 31).toUInt32).toInt32) &&& (1 : Int32))), (.int ((((p3 &&& (2147483647 : Int32)) % (30 : Int32)) + (1 : Int32)) ||| ((((p3.toUInt32 >>> ((8 : Int32) &&& 31).toUInt32).toInt32) &&& (3 : Int32)) <<< ((6 : Int32) &&& 31))))])) _
    refine XS.iconst X16.here hx rfl (hb hby at_153) ?_
    show Steps p.tables e below (T16.setTop (mkF m 154 #[.val (.int p1), .val (.int p2), .val (.int p3), .val (.long q4), .second, .val (.int (p1 &&& (7 : Int32))), .val (.ref b5), .val (.ref b13), .val (.int (fv5 (0 : Int32) (p1 &&& (7 : Int32)))), .val (.int ((p2 &&& (2147483647 : Int32)) % ((p1 &&& (7 : Int32)) - (1 : Int32)))), .unset, .unset, .unset] [(.int (5 : Int32)), (.int (((p3.toUInt32 >>> ((10 : Int32) &&& 31).toUInt32).toInt32) &&& (1 : Int32))), (.int ((((p3 &&& (2147483647 : Int32)) % (30 : Int32)) + (1 : Int32)) ||| ((((p3.toUInt32 >>> ((8 : Int32) &&& 31).toUInt32).toInt32) &&& (3 : Int32)) <<< ((6 : Int32) &&& 31))))])) _
    refine XS.ishl X16.here hx rfl (hb hby at_154) rfl ?_
    show Steps p.tables e below (T16.setTop (mkF m 155 #[.val (.int p1), .val (.int p2), .val (.int p3), .val (.long q4), .second, .val (.int (p1 &&& (7 : Int32))), .val (.ref b5), .val (.ref b13), .val (.int (fv5 (0 : Int32) (p1 &&& (7 : Int32)))), .val (.int ((p2 &&& (2147483647 : Int32)) % ((p1 &&& (7 : Int32)) - (1 : Int32)))), .unset, .unset, .unset] [(.int ((((p3.toUInt32 >>> ((10 : Int32) &&& 31).toUInt32).toInt32) &&& (1 : Int32)) <<< ((5 : Int32) &&& 31))), (.int ((((p3 &&& (2147483647 : Int32)) % (30 : Int32)) + (1 : Int32)) ||| ((((p3.toUInt32 >>> ((8 : Int32) &&& 31).toUInt32).toInt32) &&& (3 : Int32)) <<< ((6 : Int32) &&& 31))))])) _
    refine XS.ior X16.here hx rfl (hb hby at_155) rfl ?_
    show Steps p.tables e below (T16.setTop (mkF m 156 #[.val (.int p1), .val (.int p2), .val (.int p3), .val (.long q4), .second, .val (.int (p1 &&& (7 : Int32))), .val (.ref b5), .val (.ref b13), .val (.int (fv5 (0 : Int32) (p1 &&& (7 : Int32)))), .val (.int ((p2 &&& (2147483647 : Int32)) % ((p1 &&& (7 : Int32)) - (1 : Int32)))), .unset, .unset, .unset] [(.int (((((p3 &&& (2147483647 : Int32)) % (30 : Int32)) + (1 : Int32)) ||| ((((p3.toUInt32 >>> ((8 : Int32) &&& 31).toUInt32).toInt32) &&& (3 : Int32)) <<< ((6 : Int32) &&& 31))) ||| ((((p3.toUInt32 >>> ((10 : Int32) &&& 31).toUInt32).toInt32) &&& (1 : Int32)) <<< ((5 : Int32) &&& 31))))])) _
    refine XS.istore X16.here hx rfl (hb hby at_156) rfl (l' := #[.val (.int p1), .val (.int p2), .val (.int p3), .val (.long q4), .second, .val (.int (p1 &&& (7 : Int32))), .val (.ref b5), .val (.ref b13), .val (.int (fv5 (0 : Int32) (p1 &&& (7 : Int32)))), .val (.int ((p2 &&& (2147483647 : Int32)) % ((p1 &&& (7 : Int32)) - (1 : Int32)))), .val (.int (((((p3 &&& (2147483647 : Int32)) % (30 : Int32)) + (1 : Int32)) ||| ((((p3.toUInt32 >>> ((8 : Int32) &&& 31).toUInt32).toInt32) &&& (3 : Int32)) <<< ((6 : Int32) &&& 31))) ||| ((((p3.toUInt32 >>> ((10 : Int32) &&& 31).toUInt32).toInt32) &&& (1 : Int32)) <<< ((5 : Int32) &&& 31)))), .unset, .unset]) rfl ?_
    show Steps p.tables e below (T16.setTop (mkF m 158 #[.val (.int p1), .val (.int p2), .val (.int p3), .val (.long q4), .second, .val (.int (p1 &&& (7 : Int32))), .val (.ref b5), .val (.ref b13), .val (.int (fv5 (0 : Int32) (p1 &&& (7 : Int32)))), .val (.int ((p2 &&& (2147483647 : Int32)) % ((p1 &&& (7 : Int32)) - (1 : Int32)))), .val (.int (((((p3 &&& (2147483647 : Int32)) % (30 : Int32)) + (1 : Int32)) ||| ((((p3.toUInt32 >>> ((8 : Int32) &&& 31).toUInt32).toInt32) &&& (3 : Int32)) <<< ((6 : Int32) &&& 31))) ||| ((((p3.toUInt32 >>> ((10 : Int32) &&& 31).toUInt32).toInt32) &&& (1 : Int32)) <<< ((5 : Int32) &&& 31)))), .unset, .unset] [])) _
    refine XS.aload X16.here hx rfl (hb hby at_158) rfl rfl ?_
    show Steps p.tables e below (T16.setTop (mkF m 160 #[.val (.int p1), .val (.int p2), .val (.int p3), .val (.long q4), .second, .val (.int (p1 &&& (7 : Int32))), .val (.ref b5), .val (.ref b13), .val (.int (fv5 (0 : Int32) (p1 &&& (7 : Int32)))), .val (.int ((p2 &&& (2147483647 : Int32)) % ((p1 &&& (7 : Int32)) - (1 : Int32)))), .val (.int (((((p3 &&& (2147483647 : Int32)) % (30 : Int32)) + (1 : Int32)) ||| ((((p3.toUInt32 >>> ((8 : Int32) &&& 31).toUInt32).toInt32) &&& (3 : Int32)) <<< ((6 : Int32) &&& 31))) ||| ((((p3.toUInt32 >>> ((10 : Int32) &&& 31).toUInt32).toInt32) &&& (1 : Int32)) <<< ((5 : Int32) &&& 31)))), .unset, .unset] [(.ref b5)])) _
    refine XS.iconst X16.here hx rfl (hb hby at_160) ?_
    show Steps p.tables e below (T16.setTop (mkF m 161 #[.val (.int p1), .val (.int p2), .val (.int p3), .val (.long q4), .second, .val (.int (p1 &&& (7 : Int32))), .val (.ref b5), .val (.ref b13), .val (.int (fv5 (0 : Int32) (p1 &&& (7 : Int32)))), .val (.int ((p2 &&& (2147483647 : Int32)) % ((p1 &&& (7 : Int32)) - (1 : Int32)))), .val (.int (((((p3 &&& (2147483647 : Int32)) % (30 : Int32)) + (1 : Int32)) ||| ((((p3.toUInt32 >>> ((8 : Int32) &&& 31).toUInt32).toInt32) &&& (3 : Int32)) <<< ((6 : Int32) &&& 31))) ||| ((((p3.toUInt32 >>> ((10 : Int32) &&& 31).toUInt32).toInt32) &&& (1 : Int32)) <<< ((5 : Int32) &&& 31)))), .unset, .unset] [(.int (0 : Int32)), (.ref b5)])) _
    refine XS.iload X16.here hx rfl (hb hby at_161) rfl ?_
    show Steps p.tables e below (T16.setTop (mkF m 163 #[.val (.int p1), .val (.int p2), .val (.int p3), .val (.long q4), .second, .val (.int (p1 &&& (7 : Int32))), .val (.ref b5), .val (.ref b13), .val (.int (fv5 (0 : Int32) (p1 &&& (7 : Int32)))), .val (.int ((p2 &&& (2147483647 : Int32)) % ((p1 &&& (7 : Int32)) - (1 : Int32)))), .val (.int (((((p3 &&& (2147483647 : Int32)) % (30 : Int32)) + (1 : Int32)) ||| ((((p3.toUInt32 >>> ((8 : Int32) &&& 31).toUInt32).toInt32) &&& (3 : Int32)) <<< ((6 : Int32) &&& 31))) ||| ((((p3.toUInt32 >>> ((10 : Int32) &&& 31).toUInt32).toInt32) &&& (1 : Int32)) <<< ((5 : Int32) &&& 31)))), .unset, .unset] [(.int (((((p3 &&& (2147483647 : Int32)) % (30 : Int32)) + (1 : Int32)) ||| ((((p3.toUInt32 >>> ((8 : Int32) &&& 31).toUInt32).toInt32) &&& (3 : Int32)) <<< ((6 : Int32) &&& 31))) ||| ((((p3.toUInt32 >>> ((10 : Int32) &&& 31).toUInt32).toInt32) &&& (1 : Int32)) <<< ((5 : Int32) &&& 31)))), (.int (0 : Int32)), (.ref b5)])) _
    refine XS.i2b X16.here hx rfl (hb hby at_163) rfl ?_
    show Steps p.tables e below (T16.setTop (mkF m 164 #[.val (.int p1), .val (.int p2), .val (.int p3), .val (.long q4), .second, .val (.int (p1 &&& (7 : Int32))), .val (.ref b5), .val (.ref b13), .val (.int (fv5 (0 : Int32) (p1 &&& (7 : Int32)))), .val (.int ((p2 &&& (2147483647 : Int32)) % ((p1 &&& (7 : Int32)) - (1 : Int32)))), .val (.int (((((p3 &&& (2147483647 : Int32)) % (30 : Int32)) + (1 : Int32)) ||| ((((p3.toUInt32 >>> ((8 : Int32) &&& 31).toUInt32).toInt32) &&& (3 : Int32)) <<< ((6 : Int32) &&& 31))) ||| ((((p3.toUInt32 >>> ((10 : Int32) &&& 31).toUInt32).toInt32) &&& (1 : Int32)) <<< ((5 : Int32) &&& 31)))), .unset, .unset] [(.int ((((((p3 &&& (2147483647 : Int32)) % (30 : Int32)) + (1 : Int32)) ||| ((((p3.toUInt32 >>> ((8 : Int32) &&& 31).toUInt32).toInt32) &&& (3 : Int32)) <<< ((6 : Int32) &&& 31))) ||| ((((p3.toUInt32 >>> ((10 : Int32) &&& 31).toUInt32).toInt32) &&& (1 : Int32)) <<< ((5 : Int32) &&& 31))).toInt8.toInt32)), (.int (0 : Int32)), (.ref b5)])) _
    refine st17 _ ?_
    show Steps p.tables e below (T17.setTop (mkF m 165 #[.val (.int p1), .val (.int p2), .val (.int p3), .val (.long q4), .second, .val (.int (p1 &&& (7 : Int32))), .val (.ref b5), .val (.ref b13), .val (.int (fv5 (0 : Int32) (p1 &&& (7 : Int32)))), .val (.int ((p2 &&& (2147483647 : Int32)) % ((p1 &&& (7 : Int32)) - (1 : Int32)))), .val (.int (((((p3 &&& (2147483647 : Int32)) % (30 : Int32)) + (1 : Int32)) ||| ((((p3.toUInt32 >>> ((8 : Int32) &&& 31).toUInt32).toInt32) &&& (3 : Int32)) <<< ((6 : Int32) &&& 31))) ||| ((((p3.toUInt32 >>> ((10 : Int32) &&& 31).toUInt32).toInt32) &&& (1 : Int32)) <<< ((5 : Int32) &&& 31)))), .unset, .unset] [])) _
    refine XS.aload X17.here hx rfl (hb hby at_165) rfl rfl ?_
    show Steps p.tables e below (T17.setTop (mkF m 167 #[.val (.int p1), .val (.int p2), .val (.int p3), .val (.long q4), .second, .val (.int (p1 &&& (7 : Int32))), .val (.ref b5), .val (.ref b13), .val (.int (fv5 (0 : Int32) (p1 &&& (7 : Int32)))), .val (.int ((p2 &&& (2147483647 : Int32)) % ((p1 &&& (7 : Int32)) - (1 : Int32)))), .val (.int (((((p3 &&& (2147483647 : Int32)) % (30 : Int32)) + (1 : Int32)) ||| ((((p3.toUInt32 >>> ((8 : Int32) &&& 31).toUInt32).toInt32) &&& (3 : Int32)) <<< ((6 : Int32) &&& 31))) ||| ((((p3.toUInt32 >>> ((10 : Int32) &&& 31).toUInt32).toInt32) &&& (1 : Int32)) <<< ((5 : Int32) &&& 31)))), .unset, .unset] [(.ref b5)])) _
    refine XS.iconst X17.here hx rfl (hb hby at_167) ?_
    show Steps p.tables e below (T17.setTop (mkF m 168 #[.val (.int p1), .val (.int p2), .val (.int p3), .val (.long q4), .second, .val (.int (p1 &&& (7 : Int32))), .val (.ref b5), .val (.ref b13), .val (.int (fv5 (0 : Int32) (p1 &&& (7 : Int32)))), .val (.int ((p2 &&& (2147483647 : Int32)) % ((p1 &&& (7 : Int32)) - (1 : Int32)))), .val (.int (((((p3 &&& (2147483647 : Int32)) % (30 : Int32)) + (1 : Int32)) ||| ((((p3.toUInt32 >>> ((8 : Int32) &&& 31).toUInt32).toInt32) &&& (3 : Int32)) <<< ((6 : Int32) &&& 31))) ||| ((((p3.toUInt32 >>> ((10 : Int32) &&& 31).toUInt32).toInt32) &&& (1 : Int32)) <<< ((5 : Int32) &&& 31)))), .unset, .unset] [(.int (1 : Int32)), (.ref b5)])) _
    refine XS.iload X17.here hx rfl (hb hby at_168) rfl ?_
    show Steps p.tables e below (T17.setTop (mkF m 170 #[.val (.int p1), .val (.int p2), .val (.int p3), .val (.long q4), .second, .val (.int (p1 &&& (7 : Int32))), .val (.ref b5), .val (.ref b13), .val (.int (fv5 (0 : Int32) (p1 &&& (7 : Int32)))), .val (.int ((p2 &&& (2147483647 : Int32)) % ((p1 &&& (7 : Int32)) - (1 : Int32)))), .val (.int (((((p3 &&& (2147483647 : Int32)) % (30 : Int32)) + (1 : Int32)) ||| ((((p3.toUInt32 >>> ((8 : Int32) &&& 31).toUInt32).toInt32) &&& (3 : Int32)) <<< ((6 : Int32) &&& 31))) ||| ((((p3.toUInt32 >>> ((10 : Int32) &&& 31).toUInt32).toInt32) &&& (1 : Int32)) <<< ((5 : Int32) &&& 31)))), .unset, .unset] [(.int ((p2 &&& (2147483647 : Int32)) % ((p1 &&& (7 : Int32)) - (1 : Int32)))), (.int (1 : Int32)), (.ref b5)])) _
    refine XS.i2b X17.here hx rfl (hb hby at_170) rfl ?_
    show Steps p.tables e below (T17.setTop (mkF m 171 #[.val (.int p1), .val (.int p2), .val (.int p3), .val (.long q4), .second, .val (.int (p1 &&& (7 : Int32))), .val (.ref b5), .val (.ref b13), .val (.int (fv5 (0 : Int32) (p1 &&& (7 : Int32)))), .val (.int ((p2 &&& (2147483647 : Int32)) % ((p1 &&& (7 : Int32)) - (1 : Int32)))), .val (.int (((((p3 &&& (2147483647 : Int32)) % (30 : Int32)) + (1 : Int32)) ||| ((((p3.toUInt32 >>> ((8 : Int32) &&& 31).toUInt32).toInt32) &&& (3 : Int32)) <<< ((6 : Int32) &&& 31))) ||| ((((p3.toUInt32 >>> ((10 : Int32) &&& 31).toUInt32).toInt32) &&& (1 : Int32)) <<< ((5 : Int32) &&& 31)))), .unset, .unset] [(.int (((p2 &&& (2147483647 : Int32)) % ((p1 &&& (7 : Int32)) - (1 : Int32))).toInt8.toInt32)), (.int (1 : Int32)), (.ref b5)])) _
    refine st18 _ ?_
    show Steps p.tables e below (T18.setTop (mkF m 172 #[.val (.int p1), .val (.int p2), .val (.int p3), .val (.long q4), .second, .val (.int (p1 &&& (7 : Int32))), .val (.ref b5), .val (.ref b13), .val (.int (fv5 (0 : Int32) (p1 &&& (7 : Int32)))), .val (.int ((p2 &&& (2147483647 : Int32)) % ((p1 &&& (7 : Int32)) - (1 : Int32)))), .val (.int (((((p3 &&& (2147483647 : Int32)) % (30 : Int32)) + (1 : Int32)) ||| ((((p3.toUInt32 >>> ((8 : Int32) &&& 31).toUInt32).toInt32) &&& (3 : Int32)) <<< ((6 : Int32) &&& 31))) ||| ((((p3.toUInt32 >>> ((10 : Int32) &&& 31).toUInt32).toInt32) &&& (1 : Int32)) <<< ((5 : Int32) &&& 31)))), .unset, .unset] [])) _
    refine XS.aload X18.here hx rfl (hb hby at_172) rfl rfl ?_
    show Steps p.tables e below (T18.setTop (mkF m 174 #[.val (.int p1), .val (.int p2), .val (.int p3), .val (.long q4), .second, .val (.int (p1 &&& (7 : Int32))), .val (.ref b5), .val (.ref b13), .val (.int (fv5 (0 : Int32) (p1 &&& (7 : Int32)))), .val (.int ((p2 &&& (2147483647 : Int32)) % ((p1 &&& (7 : Int32)) - (1 : Int32)))), .val (.int (((((p3 &&& (2147483647 : Int32)) % (30 : Int32)) + (1 : Int32)) ||| ((((p3.toUInt32 >>> ((8 : Int32) &&& 31).toUInt32).toInt32) &&& (3 : Int32)) <<< ((6 : Int32) &&& 31))) ||| ((((p3.toUInt32 >>> ((10 : Int32) &&& 31).toUInt32).toInt32) &&& (1 : Int32)) <<< ((5 : Int32) &&& 31)))), .unset, .unset] [(.ref b13)])) _
    refine st19.trans ?_
    show Steps p.tables e below (T19.setTop (mkF m 177 #[.val (.int p1), .val (.int p2), .val (.int p3), .val (.long q4), .second, .val (.int (p1 &&& (7 : Int32))), .val (.ref b5), .val (.ref b13), .val (.int (fv5 (0 : Int32) (p1 &&& (7 : Int32)))), .val (.int ((p2 &&& (2147483647 : Int32)) % ((p1 &&& (7 : Int32)) - (1 : Int32)))), .val (.int (((((p3 &&& (2147483647 : Int32)) % (30 : Int32)) + (1 : Int32)) ||| ((((p3.toUInt32 >>> ((8 : Int32) &&& 31).toUInt32).toInt32) &&& (3 : Int32)) <<< ((6 : Int32) &&& 31))) ||| ((((p3.toUInt32 >>> ((10 : Int32) &&& 31).toUInt32).toInt32) &&& (1 : Int32)) <<< ((5 : Int32) &&& 31)))), .unset, .unset] [(.ref b19)])) _
    refine XS.astore X19.here hx rfl (hb hby at_177) rfl rfl (l' := #[.val (.int p1), .val (.int p2), .val (.int p3), .val (.long q4), .second, .val (.int (p1 &&& (7 : Int32))), .val (.ref b5), .val (.ref b13), .val (.int (fv5 (0 : Int32) (p1 &&& (7 : Int32)))), .val (.int ((p2 &&& (2147483647 : Int32)) % ((p1 &&& (7 : Int32)) - (1 : Int32)))), .val (.int (((((p3 &&& (2147483647 : Int32)) % (30 : Int32)) + (1 : Int32)) ||| ((((p3.toUInt32 >>> ((8 : Int32) &&& 31).toUInt32).toInt32) &&& (3 : Int32)) <<< ((6 : Int32) &&& 31))) ||| ((((p3.toUInt32 >>> ((10 : Int32) &&& 31).toUInt32).toInt32) &&& (1 : Int32)) <<< ((5 : Int32) &&& 31)))), .val (.ref b19), .unset]) rfl ?_
    show Steps p.tables e below (T19.setTop (mkF m 179 #[.val (.int p1), .val (.int p2), .val (.int p3), .val (.long q4), .second, .val (.int (p1 &&& (7 : Int32))), .val (.ref b5), .val (.ref b13), .val (.int (fv5 (0 : Int32) (p1 &&& (7 : Int32)))), .val (.int ((p2 &&& (2147483647 : Int32)) % ((p1 &&& (7 : Int32)) - (1 : Int32)))), .val (.int (((((p3 &&& (2147483647 : Int32)) % (30 : Int32)) + (1 : Int32)) ||| ((((p3.toUInt32 >>> ((8 : Int32) &&& 31).toUInt32).toInt32) &&& (3 : Int32)) <<< ((6 : Int32) &&& 31))) ||| ((((p3.toUInt32 >>> ((10 : Int32) &&& 31).toUInt32).toInt32) &&& (1 : Int32)) <<< ((5 : Int32) &&& 31)))), .val (.ref b19), .unset] [])) _
    refine XS.aload X19.here hx rfl (hb hby at_179) rfl rfl ?_
    show Steps p.tables e below (T19.setTop (mkF m 181 #[.val (.int p1), .val (.int p2), .val (.int p3), .val (.long q4), .second, .val (.int (p1 &&& (7 : Int32))), .val (.ref b5), .val (.ref b13), .val (.int (fv5 (0 : Int32) (p1 &&& (7 : Int32)))), .val (.int ((p2 &&& (2147483647 : Int32)) % ((p1 &&& (7 : Int32)) - (1 : Int32)))), .val (.int (((((p3 &&& (2147483647 : Int32)) % (30 : Int32)) + (1 : Int32)) ||| ((((p3.toUInt32 >>> ((8 : Int32) &&& 31).toUInt32).toInt32) &&& (3 : Int32)) <<< ((6 : Int32) &&& 31))) ||| ((((p3.toUInt32 >>> ((10 : Int32) &&& 31).toUInt32).toInt32) &&& (1 : Int32)) <<< ((5 : Int32) &&& 31)))), .val (.ref b19), .unset] [(.ref b13)])) _
    refine st20.trans ?_
    show Steps p.tables e below (T20.setTop (mkF m 184 #[.val (.int p1), .val (.int p2), .val (.int p3), .val (.long q4), .second, .val (.int (p1 &&& (7 : Int32))), .val (.ref b5), .val (.ref b13), .val (.int (fv5 (0 : Int32) (p1 &&& (7 : Int32)))), .val (.int ((p2 &&& (2147483647 : Int32)) % ((p1 &&& (7 : Int32)) - (1 : Int32)))), .val (.int (((((p3 &&& (2147483647 : Int32)) % (30 : Int32)) + (1 : Int32)) ||| ((((p3.toUInt32 >>> ((8 : Int32) &&& 31).toUInt32).toInt32) &&& (3 : Int32)) <<< ((6 : Int32) &&& 31))) ||| ((((p3.toUInt32 >>> ((10 : Int32) &&& 31).toUInt32).toInt32) &&& (1 : Int32)) <<< ((5 : Int32) &&& 31)))), .val (.ref b19), .unset] [(.int (fv5 (own_en yy) (p1 &&& (7 : Int32))))])) _
    refine XS.istore X20.here hx rfl (hb hby at_184) rfl (l' := #[.val (.int p1), .val (.int p2), .val (.int p3), .val (.long q4), .second, .val (.int (p1 &&& (7 : Int32))), .val (.ref b5), .val (.ref b13), .val (.int (fv5 (0 : Int32) (p1 &&& (7 : Int32)))), .val (.int ((p2 &&& (2147483647 : Int32)) % ((p1 &&& (7 : Int32)) - (1 : Int32)))), .val (.int (((((p3 &&& (2147483647 : Int32)) % (30 : Int32)) + (1 : Int32)) ||| ((((p3.toUInt32 >>> ((8 : Int32) &&& 31).toUInt32).toInt32) &&& (3 : Int32)) <<< ((6 : Int32) &&& 31))) ||| ((((p3.toUInt32 >>> ((10 : Int32) &&& 31).toUInt32).toInt32) &&& (1 : Int32)) <<< ((5 : Int32) &&& 31)))), .val (.ref b19), .val (.int (fv5 (own_en yy) (p1 &&& (7 : Int32))))]) rfl ?_
    show Steps p.tables e below (T20.setTop (mkF m 186 #[.val (.int p1), .val (.int p2), .val (.int p3), .val (.long q4), .second, .val (.int (p1 &&& (7 : Int32))), .val (.ref b5), .val (.ref b13), .val (.int (fv5 (0 : Int32) (p1 &&& (7 : Int32)))), .val (.int ((p2 &&& (2147483647 : Int32)) % ((p1 &&& (7 : Int32)) - (1 : Int32)))), .val (.int (((((p3 &&& (2147483647 : Int32)) % (30 : Int32)) + (1 : Int32)) ||| ((((p3.toUInt32 >>> ((8 : Int32) &&& 31).toUInt32).toInt32) &&& (3 : Int32)) <<< ((6 : Int32) &&& 31))) ||| ((((p3.toUInt32 >>> ((10 : Int32) &&& 31).toUInt32).toInt32) &&& (1 : Int32)) <<< ((5 : Int32) &&& 31)))), .val (.ref b19), .val (.int (fv5 (own_en yy) (p1 &&& (7 : Int32))))] [])) _
    refine XS.iload X20.here hx rfl (hb hby at_186) rfl ?_
    show Steps p.tables e below (T20.setTop (mkF m 188 #[.val (.int p1), .val (.int p2), .val (.int p3), .val (.long q4), .second, .val (.int (p1 &&& (7 : Int32))), .val (.ref b5), .val (.ref b13), .val (.int (fv5 (0 : Int32) (p1 &&& (7 : Int32)))), .val (.int ((p2 &&& (2147483647 : Int32)) % ((p1 &&& (7 : Int32)) - (1 : Int32)))), .val (.int (((((p3 &&& (2147483647 : Int32)) % (30 : Int32)) + (1 : Int32)) ||| ((((p3.toUInt32 >>> ((8 : Int32) &&& 31).toUInt32).toInt32) &&& (3 : Int32)) <<< ((6 : Int32) &&& 31))) ||| ((((p3.toUInt32 >>> ((10 : Int32) &&& 31).toUInt32).toInt32) &&& (1 : Int32)) <<< ((5 : Int32) &&& 31)))), .val (.ref b19), .val (.int (fv5 (own_en yy) (p1 &&& (7 : Int32))))] [(.int (fv5 (own_en yy) (p1 &&& (7 : Int32))))])) _
    refine XS.iconst X20.here hx rfl (hb hby at_188) ?_
    show Steps p.tables e below (T20.setTop (mkF m 189 #[.val (.int p1), .val (.int p2), .val (.int p3), .val (.long q4), .second, .val (.int (p1 &&& (7 : Int32))), .val (.ref b5), .val (.ref b13), .val (.int (fv5 (0 : Int32) (p1 &&& (7 : Int32)))), .val (.int ((p2 &&& (2147483647 : Int32)) % ((p1 &&& (7 : Int32)) - (1 : Int32)))), .val (.int (((((p3 &&& (2147483647 : Int32)) % (30 : Int32)) + (1 : Int32)) ||| ((((p3.toUInt32 >>> ((8 : Int32) &&& 31).toUInt32).toInt32) &&& (3 : Int32)) <<< ((6 : Int32) &&& 31))) ||| ((((p3.toUInt32 >>> ((10 : Int32) &&& 31).toUInt32).toInt32) &&& (1 : Int32)) <<< ((5 : Int32) &&& 31)))), .val (.ref b19), .val (.int (fv5 (own_en yy) (p1 &&& (7 : Int32))))] [(.int (2 : Int32)), (.int (fv5 (own_en yy) (p1 &&& (7 : Int32))))])) _
    refine XS.iload X20.here hx rfl (hb hby at_189) rfl ?_
    show Steps p.tables e below (T20.setTop (mkF m 191 #[.val (.int p1), .val (.int p2), .val (.int p3), .val (.long q4), .second, .val (.int (p1 &&& (7 : Int32))), .val (.ref b5), .val (.ref b13), .val (.int (fv5 (0 : Int32) (p1 &&& (7 : Int32)))), .val (.int ((p2 &&& (2147483647 : Int32)) % ((p1 &&& (7 : Int32)) - (1 : Int32)))), .val (.int (((((p3 &&& (2147483647 : Int32)) % (30 : Int32)) + (1 : Int32)) ||| ((((p3.toUInt32 >>> ((8 : Int32) &&& 31).toUInt32).toInt32) &&& (3 : Int32)) <<< ((6 : Int32) &&& 31))) ||| ((((p3.toUInt32 >>> ((10 : Int32) &&& 31).toUInt32).toInt32) &&& (1 : Int32)) <<< ((5 : Int32) &&& 31)))), .val (.ref b19), .val (.int (fv5 (own_en yy) (p1 &&& (7 : Int32))))] [(.int ((p2 &&& (2147483647 : Int32)) % ((p1 &&& (7 : Int32)) - (1 : Int32)))), (.int (2 : Int32)), (.int (fv5 (own_en yy) (p1 &&& (7 : Int32))))])) _
    refine XS.iadd X20.here hx rfl (hb hby at_191) rfl ?_
    show Steps p.tables e below (T20.setTop (mkF m 192 #[.val (.int p1), .val (.int p2), .val (.int p3), .val (.long q4), .second, .val (.int (p1 &&& (7 : Int32))), .val (.ref b5), .val (.ref b13), .val (.int (fv5 (0 : Int32) (p1 &&& (7 : Int32)))), .val (.int ((p2 &&& (2147483647 : Int32)) % ((p1 &&& (7 : Int32)) - (1 : Int32)))), .val (.int (((((p3 &&& (2147483647 : Int32)) % (30 : Int32)) + (1 : Int32)) ||| ((((p3.toUInt32 >>> ((8 : Int32) &&& 31).toUInt32).toInt32) &&& (3 : Int32)) <<< ((6 : Int32) &&& 31))) ||| ((((p3.toUInt32 >>> ((10 : Int32) &&& 31).toUInt32).toInt32) &&& (1 : Int32)) <<< ((5 : Int32) &&& 31)))), .val (.ref b19), .val (.int (fv5 (own_en yy) (p1 &&& (7 : Int32))))] [(.int ((2 : Int32) + ((p2 &&& (2147483647 : Int32)) % ((p1 &&& (7 : Int32)) - (1 : Int32))))), (.int (fv5 (own_en yy) (p1 &&& (7 : Int32))))])) _
    refine XS.iload X20.here hx rfl (hb hby at_192) rfl ?_
    show Steps p.tables e below (T20.setTop (mkF m 194 #[.val (.int p1), .val (.int p2), .val (.int p3), .val (.long q4), .second, .val (.int (p1 &&& (7 : Int32))), .val (.ref b5), .val (.ref b13), .val (.int (fv5 (0 : Int32) (p1 &&& (7 : Int32)))), .val (.int ((p2 &&& (2147483647 : Int32)) % ((p1 &&& (7 : Int32)) - (1 : Int32)))), .val (.int (((((p3 &&& (2147483647 : Int32)) % (30 : Int32)) + (1 : Int32)) ||| ((((p3.toUInt32 >>> ((8 : Int32) &&& 31).toUInt32).toInt32) &&& (3 : Int32)) <<< ((6 : Int32) &&& 31))) ||| ((((p3.toUInt32 >>> ((10 : Int32) &&& 31).toUInt32).toInt32) &&& (1 : Int32)) <<< ((5 : Int32) &&& 31)))), .val (.ref b19), .val (.int (fv5 (own_en yy) (p1 &&& (7 : Int32))))] [(.int (p1 &&& (7 : Int32))), (.int ((2 : Int32) + ((p2 &&& (2147483647 : Int32)) % ((p1 &&& (7 : Int32)) - (1 : Int32))))), (.int (fv5 (own_en yy) (p1 &&& (7 : Int32))))])) _
    refine XS.icmpYes X20.here hx rfl (pc0 := 194) (pc' := 201) rfl (hb hby at_194) rfl (flt hc194).2.1 (by decide) (by decide) ?_
    show Steps p.tables e below (T20.setTop (mkF m 201 #[.val (.int p1), .val (.int p2), .val (.int p3), .val (.long q4), .second, .val (.int (p1 &&& (7 : Int32))), .val (.ref b5), .val (.ref b13), .val (.int (fv5 (0 : Int32) (p1 &&& (7 : Int32)))), .val (.int ((p2 &&& (2147483647 : Int32)) % ((p1 &&& (7 : Int32)) - (1 : Int32)))), .val (.int (((((p3 &&& (2147483647 : Int32)) % (30 : Int32)) + (1 : Int32)) ||| ((((p3.toUInt32 >>> ((8 : Int32) &&& 31).toUInt32).toInt32) &&& (3 : Int32)) <<< ((6 : Int32) &&& 31))) ||| ((((p3.toUInt32 >>> ((10 : Int32) &&& 31).toUInt32).toInt32) &&& (1 : Int32)) <<< ((5 : Int32) &&& 31)))), .val (.ref b19), .val (.int (fv5 (own_en yy) (p1 &&& (7 : Int32))))] [(.int (fv5 (own_en yy) (p1 &&& (7 : Int32))))])) _
    refine XS.iconst X20.here hx rfl (hb hby at_201) ?_
    show Steps p.tables e below (T20.setTop (mkF m 202 #[.val (.int p1), .val (.int p2), .val (.int p3), .val (.long q4), .second, .val (.int (p1 &&& (7 : Int32))), .val (.ref b5), .val (.ref b13), .val (.int (fv5 (0 : Int32) (p1 &&& (7 : Int32)))), .val (.int ((p2 &&& (2147483647 : Int32)) % ((p1 &&& (7 : Int32)) - (1 : Int32)))), .val (.int (((((p3 &&& (2147483647 : Int32)) % (30 : Int32)) + (1 : Int32)) ||| ((((p3.toUInt32 >>> ((8 : Int32) &&& 31).toUInt32).toInt32) &&& (3 : Int32)) <<< ((6 : Int32) &&& 31))) ||| ((((p3.toUInt32 >>> ((10 : Int32) &&& 31).toUInt32).toInt32) &&& (1 : Int32)) <<< ((5 : Int32) &&& 31)))), .val (.ref b19), .val (.int (fv5 (own_en yy) (p1 &&& (7 : Int32))))] [(.int (0 : Int32)), (.int (fv5 (own_en yy) (p1 &&& (7 : Int32))))])) _
    refine XS.icmpNo X20.here hx rfl (hb hby at_202) rfl (teq hc202).2 ?_
    show Steps p.tables e below (T20.setTop (mkF m 205 #[.val (.int p1), .val (.int p2), .val (.int p3), .val (.long q4), .second, .val (.int (p1 &&& (7 : Int32))), .val (.ref b5), .val (.ref b13), .val (.int (fv5 (0 : Int32) (p1 &&& (7 : Int32)))), .val (.int ((p2 &&& (2147483647 : Int32)) % ((p1 &&& (7 : Int32)) - (1 : Int32)))), .val (.int (((((p3 &&& (2147483647 : Int32)) % (30 : Int32)) + (1 : Int32)) ||| ((((p3.toUInt32 >>> ((8 : Int32) &&& 31).toUInt32).toInt32) &&& (3 : Int32)) <<< ((6 : Int32) &&& 31))) ||| ((((p3.toUInt32 >>> ((10 : Int32) &&& 31).toUInt32).toInt32) &&& (1 : Int32)) <<< ((5 : Int32) &&& 31)))), .val (.ref b19), .val (.int (fv5 (own_en yy) (p1 &&& (7 : Int32))))] [])) _
    refine XS.aload X20.here hx rfl (hb hby at_205) rfl rfl ?_
    show Steps p.tables e below (T20.setTop (mkF m 207 #[.val (.int p1), .val (.int p2), .val (.int p3), .val (.long q4), .second, .val (.int (p1 &&& (7 : Int32))), .val (.ref b5), .val (.ref b13), .val (.int (fv5 (0 : Int32) (p1 &&& (7 : Int32)))), .val (.int ((p2 &&& (2147483647 : Int32)) % ((p1 &&& (7 : Int32)) - (1 : Int32)))), .val (.int (((((p3 &&& (2147483647 : Int32)) % (30 : Int32)) + (1 : Int32)) ||| ((((p3.toUInt32 >>> ((8 : Int32) &&& 31).toUInt32).toInt32) &&& (3 : Int32)) <<< ((6 : Int32) &&& 31))) ||| ((((p3.toUInt32 >>> ((10 : Int32) &&& 31).toUInt32).toInt32) &&& (1 : Int32)) <<< ((5 : Int32) &&& 31)))), .val (.ref b19), .val (.int (fv5 (own_en yy) (p1 &&& (7 : Int32))))] [(.ref b19)])) _
    refine st21.trans ?_
    show Steps p.tables e below (T21.setTop (mkF m 210 #[.val (.int p1), .val (.int p2), .val (.int p3), .val (.long q4), .second, .val (.int (p1 &&& (7 : Int32))), .val (.ref b5), .val (.ref b13), .val (.int (fv5 (0 : Int32) (p1 &&& (7 : Int32)))), .val (.int ((p2 &&& (2147483647 : Int32)) % ((p1 &&& (7 : Int32)) - (1 : Int32)))), .val (.int (((((p3 &&& (2147483647 : Int32)) % (30 : Int32)) + (1 : Int32)) ||| ((((p3.toUInt32 >>> ((8 : Int32) &&& 31).toUInt32).toInt32) &&& (3 : Int32)) <<< ((6 : Int32) &&& 31))) ||| ((((p3.toUInt32 >>> ((10 : Int32) &&& 31).toUInt32).toInt32) &&& (1 : Int32)) <<< ((5 : Int32) &&& 31)))), .val (.ref b19), .val (.int (fv5 (own_en yy) (p1 &&& (7 : Int32))))] [(.int (own_en yy))])) _
    refine XS.iconst X21.here hx rfl (hb hby at_210) ?_
    show Steps p.tables e below (T21.setTop (mkF m 211 #[.val (.int p1), .val (.int p2), .val (.int p3), .val (.long q4), .second, .val (.int (p1 &&& (7 : Int32))), .val (.ref b5), .val (.ref b13), .val (.int (fv5 (0 : Int32) (p1 &&& (7 : Int32)))), .val (.int ((p2 &&& (2147483647 : Int32)) % ((p1 &&& (7 : Int32)) - (1 : Int32)))), .val (.int (((((p3 &&& (2147483647 : Int32)) % (30 : Int32)) + (1 : Int32)) ||| ((((p3.toUInt32 >>> ((8 : Int32) &&& 31).toUInt32).toInt32) &&& (3 : Int32)) <<< ((6 : Int32) &&& 31))) ||| ((((p3.toUInt32 >>> ((10 : Int32) &&& 31).toUInt32).toInt32) &&& (1 : Int32)) <<< ((5 : Int32) &&& 31)))), .val (.ref b19), .val (.int (fv5 (own_en yy) (p1 &&& (7 : Int32))))] [(.int (2 : Int32)), (.int (own_en yy))])) _
    refine XS.iload X21.here hx rfl (hb hby at_211) rfl ?_
    show Steps p.tables e below (T21.setTop (mkF m 213 #[.val (.int p1), .val (.int p2), .val (.int p3), .val (.long q4), .second, .val (.int (p1 &&& (7 : Int32))), .val (.ref b5), .val (.ref b13), .val (.int (fv5 (0 : Int32) (p1 &&& (7 : Int32)))), .val (.int ((p2 &&& (2147483647 : Int32)) % ((p1 &&& (7 : Int32)) - (1 : Int32)))), .val (.int (((((p3 &&& (2147483647 : Int32)) % (30 : Int32)) + (1 : Int32)) ||| ((((p3.toUInt32 >>> ((8 : Int32) &&& 31).toUInt32).toInt32) &&& (3 : Int32)) <<< ((6 : Int32) &&& 31))) ||| ((((p3.toUInt32 >>> ((10 : Int32) &&& 31).toUInt32).toInt32) &&& (1 : Int32)) <<< ((5 : Int32) &&& 31)))), .val (.ref b19), .val (.int (fv5 (own_en yy) (p1 &&& (7 : Int32))))] [(.int ((p2 &&& (2147483647 : Int32)) % ((p1 &&& (7 : Int32)) - (1 : Int32)))), (.int (2 : Int32)), (.int (own_en yy))])) _
    refine XS.iadd X21.here hx rfl (hb hby at_213) rfl ?_
    show Steps p.tables e below (T21.setTop (mkF m 214 #[.val (.int p1), .val (.int p2), .val (.int p3), .val (.long q4), .second, .val (.int (p1 &&& (7 : Int32))), .val (.ref b5), .val (.ref b13), .val (.int (fv5 (0 : Int32) (p1 &&& (7 : Int32)))), .val (.int ((p2 &&& (2147483647 : Int32)) % ((p1 &&& (7 : Int32)) - (1 : Int32)))), .val (.int (((((p3 &&& (2147483647 : Int32)) % (30 : Int32)) + (1 : Int32)) ||| ((((p3.toUInt32 >>> ((8 : Int32) &&& 31).toUInt32).toInt32) &&& (3 : Int32)) <<< ((6 : Int32) &&& 31))) ||| ((((p3.toUInt32 >>> ((10 : Int32) &&& 31).toUInt32).toInt32) &&& (1 : Int32)) <<< ((5 : Int32) &&& 31)))), .val (.ref b19), .val (.int (fv5 (own_en yy) (p1 &&& (7 : Int32))))] [(.int ((2 : Int32) + ((p2 &&& (2147483647 : Int32)) % ((p1 &&& (7 : Int32)) - (1 : Int32))))), (.int (own_en yy))])) _
    refine XS.icmpNo X21.here hx rfl (hb hby at_214) rfl (teq hc214).2 ?_
    show Steps p.tables e below (T21.setTop (mkF m 217 #[.val (.int p1), .val (.int p2), .val (.int p3), .val (.long q4), .second, .val (.int (p1 &&& (7 : Int32))), .val (.ref b5), .val (.ref b13), .val (.int (fv5 (0 : Int32) (p1 &&& (7 : Int32)))), .val (.int ((p2 &&& (2147483647 : Int32)) % ((p1 &&& (7 : Int32)) - (1 : Int32)))), .val (.int (((((p3 &&& (2147483647 : Int32)) % (30 : Int32)) + (1 : Int32)) ||| ((((p3.toUInt32 >>> ((8 : Int32) &&& 31).toUInt32).toInt32) &&& (3 : Int32)) <<< ((6 : Int32) &&& 31))) ||| ((((p3.toUInt32 >>> ((10 : Int32) &&& 31).toUInt32).toInt32) &&& (1 : Int32)) <<< ((5 : Int32) &&& 31)))), .val (.ref b19), .val (.int (fv5 (own_en yy) (p1 &&& (7 : Int32))))] [])) _
    refine XS.aload X21.here hx rfl (hb hby at_217) rfl rfl ?_
    show Steps p.tables e below (T21.setTop (mkF m 219 #[.val (.int p1), .val (.int p2), .val (.int p3), .val (.long q4), .second, .val (.int (p1 &&& (7 : Int32))), .val (.ref b5), .val (.ref b13), .val (.int (fv5 (0 : Int32) (p1 &&& (7 : Int32)))), .val (.int ((p2 &&& (2147483647 : Int32)) % ((p1 &&& (7 : Int32)) - (1 : Int32)))), .val (.int (((((p3 &&& (2147483647 : Int32)) % (30 : Int32)) + (1 : Int32)) ||| ((((p3.toUInt32 >>> ((8 : Int32) &&& 31).toUInt32).toInt32) &&& (3 : Int32)) <<< ((6 : Int32) &&& 31))) ||| ((((p3.toUInt32 >>> ((10 : Int32) &&& 31).toUInt32).toInt32) &&& (1 : Int32)) <<< ((5 : Int32) &&& 31)))), .val (.ref b19), .val (.int (fv5 (own_en yy) (p1 &&& (7 : Int32))))] [(.ref b13)])) _
    refine st22.trans ?_
    show Steps p.tables e below (T22.setTop (mkF m 222 #[.val (.int p1), .val (.int p2), .val (.int p3), .val (.long q4), .second, .val (.int (p1 &&& (7 : Int32))), .val (.ref b5), .val (.ref b13), .val (.int (fv5 (0 : Int32) (p1 &&& (7 : Int32)))), .val (.int ((p2 &&& (2147483647 : Int32)) % ((p1 &&& (7 : Int32)) - (1 : Int32)))), .val (.int (((((p3 &&& (2147483647 : Int32)) % (30 : Int32)) + (1 : Int32)) ||| ((((p3.toUInt32 >>> ((8 : Int32) &&& 31).toUInt32).toInt32) &&& (3 : Int32)) <<< ((6 : Int32) &&& 31))) ||| ((((p3.toUInt32 >>> ((10 : Int32) &&& 31).toUInt32).toInt32) &&& (1 : Int32)) <<< ((5 : Int32) &&& 31)))), .val (.ref b19), .val (.int (fv5 (own_en yy) (p1 &&& (7 : Int32))))] [(.int (fv5 (own_en yy) (p1 &&& (7 : Int32))))])) _
    refine XS.iload X22.here hx rfl (hb hby at_222) rfl ?_
    show Steps p.tables e below (T22.setTop (mkF m 224 #[.val (.int p1), .val (.int p2), .val (.int p3), .val (.long q4), .second, .val (.int (p1 &&& (7 : Int32))), .val (.ref b5), .val (.ref b13), .val (.int (fv5 (0 : Int32) (p1 &&& (7 : Int32)))), .val (.int ((p2 &&& (2147483647 : Int32)) % ((p1 &&& (7 : Int32)) - (1 : Int32)))), .val (.int (((((p3 &&& (2147483647 : Int32)) % (30 : Int32)) + (1 : Int32)) ||| ((((p3.toUInt32 >>> ((8 : Int32) &&& 31).toUInt32).toInt32) &&& (3 : Int32)) <<< ((6 : Int32) &&& 31))) ||| ((((p3.toUInt32 >>> ((10 : Int32) &&& 31).toUInt32).toInt32) &&& (1 : Int32)) <<< ((5 : Int32) &&& 31)))), .val (.ref b19), .val (.int (fv5 (own_en yy) (p1 &&& (7 : Int32))))] [(.int (fv5 (own_en yy) (p1 &&& (7 : Int32)))), (.int (fv5 (own_en yy) (p1 &&& (7 : Int32))))])) _
    refine XS.icmpNo X22.here hx rfl (hb hby at_224) rfl (teq (rfl : (fv5 (own_en yy) (p1 &&& (7 : Int32))) = (fv5 (own_en yy) (p1 &&& (7 : Int32))))).2 ?_
    show Steps p.tables e below (T22.setTop (mkF m 227 #[.val (.int p1), .val (.int p2), .val (.int p3), .val (.long q4), .second, .val (.int (p1 &&& (7 : Int32))), .val (.ref b5), .val (.ref b13), .val (.int (fv5 (0 : Int32) (p1 &&& (7 : Int32)))), .val (.int ((p2 &&& (2147483647 : Int32)) % ((p1 &&& (7 : Int32)) - (1 : Int32)))), .val (.int (((((p3 &&& (2147483647 : Int32)) % (30 : Int32)) + (1 : Int32)) ||| ((((p3.toUInt32 >>> ((8 : Int32) &&& 31).toUInt32).toInt32) &&& (3 : Int32)) <<< ((6 : Int32) &&& 31))) ||| ((((p3.toUInt32 >>> ((10 : Int32) &&& 31).toUInt32).toInt32) &&& (1 : Int32)) <<< ((5 : Int32) &&& 31)))), .val (.ref b19), .val (.int (fv5 (own_en yy) (p1 &&& (7 : Int32))))] [])) _
    refine XS.iconst X22.here hx rfl (hb hby at_227) ?_
    show Steps p.tables e below (T22.setTop (mkF m 228 #[.val (.int p1), .val (.int p2), .val (.int p3), .val (.long q4), .second, .val (.int (p1 &&& (7 : Int32))), .val (.ref b5), .val (.ref b13), .val (.int (fv5 (0 : Int32) (p1 &&& (7 : Int32)))), .val (.int ((p2 &&& (2147483647 : Int32)) % ((p1 &&& (7 : Int32)) - (1 : Int32)))), .val (.int (((((p3 &&& (2147483647 : Int32)) % (30 : Int32)) + (1 : Int32)) ||| ((((p3.toUInt32 >>> ((8 : Int32) &&& 31).toUInt32).toInt32) &&& (3 : Int32)) <<< ((6 : Int32) &&& 31))) ||| ((((p3.toUInt32 >>> ((10 : Int32) &&& 31).toUInt32).toInt32) &&& (1 : Int32)) <<< ((5 : Int32) &&& 31)))), .val (.ref b19), .val (.int (fv5 (own_en yy) (p1 &&& (7 : Int32))))] [(.int (1 : Int32))])) _
    refine XS.goto X22.here hx rfl (pc0 := 228) (pc' := 232) rfl (hb hby at_228) (by decide) (by decide) ?_
    show Steps p.tables e below (T22.setTop (mkF m 232 #[.val (.int p1), .val (.int p2), .val (.int p3), .val (.long q4), .second, .val (.int (p1 &&& (7 : Int32))), .val (.ref b5), .val (.ref b13), .val (.int (fv5 (0 : Int32) (p1 &&& (7 : Int32)))), .val (.int ((p2 &&& (2147483647 : Int32)) % ((p1 &&& (7 : Int32)) - (1 : Int32)))), .val (.int (((((p3 &&& (2147483647 : Int32)) % (30 : Int32)) + (1 : Int32)) ||| ((((p3.toUInt32 >>> ((8 : Int32) &&& 31).toUInt32).toInt32) &&& (3 : Int32)) <<< ((6 : Int32) &&& 31))) ||| ((((p3.toUInt32 >>> ((10 : Int32) &&& 31).toUInt32).toInt32) &&& (1 : Int32)) <<< ((5 : Int32) &&& 31)))), .val (.ref b19), .val (.int (fv5 (own_en yy) (p1 &&& (7 : Int32))))] [(.int (1 : Int32))])) _
    exact retN X22 hx (t := .boolean) Bd.returns (by simp) (hb hby at_232) hr
  · show QF n0 _ T22.heap _
    rw [eh22]
    exact ⟨rfl, N22, trivial⟩
set_option maxRecDepth 65536 in
set_option maxHeartbeats 40000000 in
theorem rm0_ftttffff (l : Launch) (Z : State) (a0 : Array Value) (hw : ∀ d ∈ tables_1, d.before a0 Z = true) (ws : List Jvm.Cond) (p1 : Int32) (p2 : Int32) (p3 : Int32) (q4 : Int64) (xx : Int32) (yy : Int32) (h0 : Heap) (n0 : Nat) (Z0 : n0 ≤ h0.size) (hng : ¬ (p1 &&& (7 : Int32)) < 0) (hcap : (p1 &&& (7 : Int32)).toNatClampNeg ≤ 7) (hxx : xx = nar .byte ((((((p3 &&& (2147483647 : Int32)) % (30 : Int32)) + (1 : Int32)) ||| ((((p3.toUInt32 >>> ((8 : Int32) &&& 31).toUInt32).toInt32) &&& (3 : Int32)) <<< ((6 : Int32) &&& 31))) ||| ((((p3.toUInt32 >>> ((10 : Int32) &&& 31).toUInt32).toInt32) &&& (1 : Int32)) <<< ((5 : Int32) &&& 31))).toInt8.toInt32)) (hyy : yy = nar .byte (((p2 &&& (2147483647 : Int32)) % ((p1 &&& (7 : Int32)) - (1 : Int32))).toInt8.toInt32)) (h0n : (0 : Int32) < (p1 &&& (7 : Int32))) (h2 : (1 : Int32) < (p1 &&& (7 : Int32))) (hid : ¬ (((xx &&& (255 : Int32)) &&& (31 : Int32)) = (31 : Int32))) (hln : (yy &&& (255 : Int32)) < (128 : Int32)) (hr4 : ¬ ((fv5 (0 : Int32) (p1 &&& (7 : Int32))) = (0 : Int32))) (hr66 : ¬ (((xx &&& (255 : Int32)) &&& (-33 : Int32)) = (0 : Int32))) (hr94 : ¬ ((lcmpW ((yy &&& (255 : Int32)).toInt64) (-1 : Int64)) = (0 : Int32))) (hr160 : ¬ ((0 : Int32) < (lcmpW ((yy &&& (255 : Int32)).toInt64) (((p1 &&& (7 : Int32)) - (((0 : Int32) + (1 : Int32)) + (1 : Int32))).toInt64)))) (hc84 : (0 : Int32) < (p1 &&& (7 : Int32))) (hc92 : (fv5 (0 : Int32) (p1 &&& (7 : Int32))) = (1 : Int32)) (hc112 : ¬ ((p1 &&& (7 : Int32)) < (2 : Int32))) (hnz125 : ¬ (((p1 &&& (7 : Int32)) - (1 : Int32)) = (0 : Int32))) (hnz134 : ¬ ((30 : Int32) = (0 : Int32))) (hc194 : ((2 : Int32) + ((p2 &&& (2147483647 : Int32)) % ((p1 &&& (7 : Int32)) - (1 : Int32)))) < (p1 &&& (7 : Int32))) (hc202 : (fv5 (own_en yy) (p1 &&& (7 : Int32))) = (1 : Int32)) (hc214 : (own_en yy) = ((2 : Int32) + ((p2 &&& (2147483647 : Int32)) % ((p1 &&& (7 : Int32)) - (1 : Int32))))) :
    MetFree l x (head1 (Jvm.Cond.code x code maxLocals ret :: ws) room_1) (fun a U => a = #[(.int p1), (.int p2), (.int p3), (.long q4)] ∧ Z.Warmed39 U.vm ∧ U.heap = h0) (fun _ _ _ _ _ => True) (fun _ U o U' => ∃ v L, o = .returned v ∧ QF n0 v U'.heap L ∧ FrameEnd U o U' L room_1.cells room_1.slots) := by
  refine MetFree.of_bodySF (plainFor_of_name pn_0) hisR ?_
  intro p e s m args below meth c s₁ Bd hml0 hP hK
  obtain ⟨rfl, hZ, hh⟩ := hP
  have hx := Bd.exec
  have hby := Bd.bytes
  have hml : c.maxLocals = 13 := hml0
  have hown : s.vm.findClass "com/example/rosehip/rosehip/codec/BerReaderHasMorePinLaw" = some m.cls := findClass_of_methodNamed Bd.named
  have hnm := (name_of_methodNamed Bd.named Bd.method).1
  have X0 : Stand p l e room_1 s m #[(.int p1), (.int p2), (.int p3), (.long q4)] below meth c s₁ [] 0 0 := Stand.of_body Bd
  have e0 : s₁.heap = h0 := by rw [← hh, Bd.state]; rfl
  have N0 := Fr.nil n0
  have pre0 : ∀ t, Steps p.tables e below (s₁.setTop (mkF m 0 #[.val (.int p1), .val (.int p2), .val (.int p3), .val (.long q4), .second, .unset, .unset, .unset, .unset, .unset, .unset, .unset, .unset] [])) t → Steps p.tables e below (s₁.setTop (entryFrame m #[(.int p1), (.int p2), (.int p3), (.long q4)] maxLocals)) t := fun t k => castTop (ef_0 m p1 p2 p3 q4) k
  -- 3. LAWS
  obtain ⟨T5, h5, k5, X5, e5, E5, A5, st5⟩ := newP X0 hx hZ (hw _ (List.mem_of_getElem? (i := 0) rfl)) e0 (g := (mkF m 8 #[.val (.int p1), .val (.int p2), .val (.int p3), .val (.long q4), .second, .val (.int (p1 &&& (7 : Int32))), .unset, .unset, .unset, .unset, .unset, .unset, .unset] [(.int (p1 &&& (7 : Int32)))])) rfl (hb hby at_8) rfl hng (cap := 7) hcap (by decide) (by decide) (by decide)
  obtain ⟨b5, g5⟩ : ∃ z, z = h0.size := ⟨_, rfl⟩      -- the fresh array's address
  rw [← g5] at A5 st5
  have V_b5 := Arv.new A5 hng      -- Arv Z h5 b5 k5 .byte (p1 &&& (7 : Int32)) [] (its first value); a place must be in the list before it's written: Arv.pad with pad_rep
  have g_b5 : n0 ≤ b5 := Nat.le_trans Z0 (Nat.le_of_eq g5.symm)
  have sz_b5 : h0.size ≤ b5 := (Nat.le_trans (Keep.refl h0 []).1 (Nat.le_of_eq g5.symm))
  have K5 : Keep h0 h5 [] := (Keep.refl h0 []).ext E5
  -- newarray of at most cap (TODO_cap: the greatest length): this body's room: slots + cap; its caller's figures: cells + 1, slots + cap
  -- pc 16: com/example/rosehip/rosehip/codec/BerReaderHasMorePinLaw.put by its contract rm1
  obtain ⟨_, _, ⟨T6, L6, k6, n6⟩, -, X6, ⟨Lc6, hQ6, l6, y6, z6⟩, st6⟩ := Jvm.LawKit.callS X5 hx (y := (⟨"com/example/rosehip/rosehip/codec/BerReaderHasMorePinLaw", "put", "([BIJ)V"⟩ : MethodName)) hown (mvT hZ (hw _ (List.mem_of_getElem? (i := 1) rfl))) (mvT hZ (hw _ (List.mem_of_getElem? (i := 2) rfl))) (mvT hZ (hw _ (List.mem_of_getElem? (i := 3) rfl))) (mvT hZ (hw _ (List.mem_of_getElem? (i := 4) rfl))) (by decide) (backOf (W := 0) (rm1 l Z a0 hw [] b5 (0 : Int32) q4 (p1 &&& (7 : Int32)) h5 n0 (Nat.le_trans Z0 E5.1) (By.of V_b5) g_b5 (by decide)) hZ (hw _ (List.mem_of_getElem? (i := 4) rfl)) (hw _ (List.mem_of_getElem? (i := 3) rfl)) (by decide) (by decide)) (g := (mkF m 16 #[.val (.int p1), .val (.int p2), .val (.int p3), .val (.long q4), .second, .val (.int (p1 &&& (7 : Int32))), .val (.ref b5), .unset, .unset, .unset, .unset, .unset, .unset] [(.long q4), (.int (0 : Int32)), (.ref b5)])) rfl (by rw [hml]; rfl) (argsL := [(.ref b5), (.int (0 : Int32)), (.long q4)]) (rest := []) (lenOf pd_0_0 rfl) rfl (by show 2 * 0 + _ ≤ _; exact Nat.le_of_eq rfl) (hb hby at_16) (fun _ _ => ⟨rfl, e5, (by decide : 1 + 0 ≤ _), (by decide : 7 + 0 ≤ _)⟩)
  dsimp only [Pt.U, Pt.locs, Pt.cells, Pt.slots] at X6 l6 y6 z6 st6 hQ6
  subst l6 y6 z6
  obtain ⟨rfl, N6q, KQ6', B6q⟩ := hQ6
  have N6 := Fr.app N0 N6q
  have KQ6 : Keep h5 T6.heap [b5] := KQ6'
  have K6 : Keep h0 T6.heap [] := K5.trans KQ6 (allS (Or.inr sz_b5) all0)
  -- pc 23: com/example/rosehip/rosehip/codec/BerReaderHasMorePinLaw.put by its contract rm1
  obtain ⟨_, _, ⟨T7, L7, k7, n7⟩, -, X7, ⟨Lc7, hQ7, l7, y7, z7⟩, st7⟩ := Jvm.LawKit.callS X6 hx (y := (⟨"com/example/rosehip/rosehip/codec/BerReaderHasMorePinLaw", "put", "([BIJ)V"⟩ : MethodName)) hown (mvT hZ (hw _ (List.mem_of_getElem? (i := 1) rfl))) (mvT hZ (hw _ (List.mem_of_getElem? (i := 2) rfl))) (mvT hZ (hw _ (List.mem_of_getElem? (i := 3) rfl))) (mvT hZ (hw _ (List.mem_of_getElem? (i := 4) rfl))) (by decide) (backOf (W := 0) (rm1 l Z a0 hw [] b5 (1 : Int32) q4 (p1 &&& (7 : Int32)) T6.heap n0 (Nat.le_trans (Nat.le_trans Z0 E5.1) KQ6.1) B6q g_b5 (by decide)) hZ (hw _ (List.mem_of_getElem? (i := 4) rfl)) (hw _ (List.mem_of_getElem? (i := 3) rfl)) (by decide) (by decide)) (g := (mkF m 23 #[.val (.int p1), .val (.int p2), .val (.int p3), .val (.long q4), .second, .val (.int (p1 &&& (7 : Int32))), .val (.ref b5), .unset, .unset, .unset, .unset, .unset, .unset] [(.long q4), (.int (1 : Int32)), (.ref b5)])) rfl (by rw [hml]; rfl) (argsL := [(.ref b5), (.int (1 : Int32)), (.long q4)]) (rest := []) (lenOf pd_0_0 rfl) rfl (by show 2 * 0 + _ ≤ _; exact Nat.le_of_eq rfl) (hb hby at_23) (fun _ _ => ⟨rfl, rfl, (by decide : 1 + 0 ≤ _), (by decide : 7 + 0 ≤ _)⟩)
  dsimp only [Pt.U, Pt.locs, Pt.cells, Pt.slots] at X7 l7 y7 z7 st7 hQ7
  subst l7 y7 z7
  obtain ⟨rfl, N7q, KQ7', B7q⟩ := hQ7
  have N7 := Fr.app N6 N7q
  have KQ7 : Keep T6.heap T7.heap [b5] := KQ7'
  have K7 : Keep h0 T7.heap [] := K6.trans KQ7 (allS (Or.inr sz_b5) all0)
  -- pc 30: com/example/rosehip/rosehip/codec/BerReaderHasMorePinLaw.put by its contract rm1
  obtain ⟨_, _, ⟨T8, L8, k8, n8⟩, -, X8, ⟨Lc8, hQ8, l8, y8, z8⟩, st8⟩ := Jvm.LawKit.callS X7 hx (y := (⟨"com/example/rosehip/rosehip/codec/BerReaderHasMorePinLaw", "put", "([BIJ)V"⟩ : MethodName)) hown (mvT hZ (hw _ (List.mem_of_getElem? (i := 1) rfl))) (mvT hZ (hw _ (List.mem_of_getElem? (i := 2) rfl))) (mvT hZ (hw _ (List.mem_of_getElem? (i := 3) rfl))) (mvT hZ (hw _ (List.mem_of_getElem? (i := 4) rfl))) (by decide) (backOf (W := 0) (rm1 l Z a0 hw [] b5 (2 : Int32) q4 (p1 &&& (7 : Int32)) T7.heap n0 (Nat.le_trans (Nat.le_trans (Nat.le_trans Z0 E5.1) KQ6.1) KQ7.1) B7q g_b5 (by decide)) hZ (hw _ (List.mem_of_getElem? (i := 4) rfl)) (hw _ (List.mem_of_getElem? (i := 3) rfl)) (by decide) (by decide)) (g := (mkF m 30 #[.val (.int p1), .val (.int p2), .val (.int p3), .val (.long q4), .second, .val (.int (p1 &&& (7 : Int32))), .val (.ref b5), .unset, .unset, .unset, .unset, .unset, .unset] [(.long q4), (.int (2 : Int32)), (.ref b5)])) rfl (by rw [hml]; rfl) (argsL := [(.ref b5), (.int (2 : Int32)), (.long q4)]) (rest := []) (lenOf pd_0_0 rfl) rfl (by show 2 * 0 + _ ≤ _; exact Nat.le_of_eq rfl) (hb hby at_30) (fun _ _ => ⟨rfl, rfl, (by decide : 1 + 0 ≤ _), (by decide : 7 + 0 ≤ _)⟩)
  dsimp only [Pt.U, Pt.locs, Pt.cells, Pt.slots] at X8 l8 y8 z8 st8 hQ8
  subst l8 y8 z8
  obtain ⟨rfl, N8q, KQ8', B8q⟩ := hQ8
  have N8 := Fr.app N7 N8q
  have KQ8 : Keep T7.heap T8.heap [b5] := KQ8'
  have K8 : Keep h0 T8.heap [] := K7.trans KQ8 (allS (Or.inr sz_b5) all0)
  -- pc 37: com/example/rosehip/rosehip/codec/BerReaderHasMorePinLaw.put by its contract rm1
  obtain ⟨_, _, ⟨T9, L9, k9, n9⟩, -, X9, ⟨Lc9, hQ9, l9, y9, z9⟩, st9⟩ := Jvm.LawKit.callS X8 hx (y := (⟨"com/example/rosehip/rosehip/codec/BerReaderHasMorePinLaw", "put", "([BIJ)V"⟩ : MethodName)) hown (mvT hZ (hw _ (List.mem_of_getElem? (i := 1) rfl))) (mvT hZ (hw _ (List.mem_of_getElem? (i := 2) rfl))) (mvT hZ (hw _ (List.mem_of_getElem? (i := 3) rfl))) (mvT hZ (hw _ (List.mem_of_getElem? (i := 4) rfl))) (by decide) (backOf (W := 0) (rm1 l Z a0 hw [] b5 (3 : Int32) q4 (p1 &&& (7 : Int32)) T8.heap n0 (Nat.le_trans (Nat.le_trans (Nat.le_trans (Nat.le_trans Z0 E5.1) KQ6.1) KQ7.1) KQ8.1) B8q g_b5 (by decide)) hZ (hw _ (List.mem_of_getElem? (i := 4) rfl)) (hw _ (List.mem_of_getElem? (i := 3) rfl)) (by decide) (by decide)) (g := (mkF m 37 #[.val (.int p1), .val (.int p2), .val (.int p3), .val (.long q4), .second, .val (.int (p1 &&& (7 : Int32))), .val (.ref b5), .unset, .unset, .unset, .unset, .unset, .unset] [(.long q4), (.int (3 : Int32)), (.ref b5)])) rfl (by rw [hml]; rfl) (argsL := [(.ref b5), (.int (3 : Int32)), (.long q4)]) (rest := []) (lenOf pd_0_0 rfl) rfl (by show 2 * 0 + _ ≤ _; exact Nat.le_of_eq rfl) (hb hby at_37) (fun _ _ => ⟨rfl, rfl, (by decide : 1 + 0 ≤ _), (by decide : 7 + 0 ≤ _)⟩)
  dsimp only [Pt.U, Pt.locs, Pt.cells, Pt.slots] at X9 l9 y9 z9 st9 hQ9
  subst l9 y9 z9
  obtain ⟨rfl, N9q, KQ9', B9q⟩ := hQ9
  have N9 := Fr.app N8 N9q
  have KQ9 : Keep T8.heap T9.heap [b5] := KQ9'
  have K9 : Keep h0 T9.heap [] := K8.trans KQ9 (allS (Or.inr sz_b5) all0)
  -- pc 44: com/example/rosehip/rosehip/codec/BerReaderHasMorePinLaw.put by its contract rm1
  obtain ⟨_, _, ⟨T10, L10, k10, n10⟩, -, X10, ⟨Lc10, hQ10, l10, y10, z10⟩, st10⟩ := Jvm.LawKit.callS X9 hx (y := (⟨"com/example/rosehip/rosehip/codec/BerReaderHasMorePinLaw", "put", "([BIJ)V"⟩ : MethodName)) hown (mvT hZ (hw _ (List.mem_of_getElem? (i := 1) rfl))) (mvT hZ (hw _ (List.mem_of_getElem? (i := 2) rfl))) (mvT hZ (hw _ (List.mem_of_getElem? (i := 3) rfl))) (mvT hZ (hw _ (List.mem_of_getElem? (i := 4) rfl))) (by decide) (backOf (W := 0) (rm1 l Z a0 hw [] b5 (4 : Int32) q4 (p1 &&& (7 : Int32)) T9.heap n0 (Nat.le_trans (Nat.le_trans (Nat.le_trans (Nat.le_trans (Nat.le_trans Z0 E5.1) KQ6.1) KQ7.1) KQ8.1) KQ9.1) B9q g_b5 (by decide)) hZ (hw _ (List.mem_of_getElem? (i := 4) rfl)) (hw _ (List.mem_of_getElem? (i := 3) rfl)) (by decide) (by decide)) (g := (mkF m 44 #[.val (.int p1), .val (.int p2), .val (.int p3), .val (.long q4), .second, .val (.int (p1 &&& (7 : Int32))), .val (.ref b5), .unset, .unset, .unset, .unset, .unset, .unset] [(.long q4), (.int (4 : Int32)), (.ref b5)])) rfl (by rw [hml]; rfl) (argsL := [(.ref b5), (.int (4 : Int32)), (.long q4)]) (rest := []) (lenOf pd_0_0 rfl) rfl (by show 2 * 0 + _ ≤ _; exact Nat.le_of_eq rfl) (hb hby at_44) (fun _ _ => ⟨rfl, rfl, (by decide : 1 + 0 ≤ _), (by decide : 7 + 0 ≤ _)⟩)
  dsimp only [Pt.U, Pt.locs, Pt.cells, Pt.slots] at X10 l10 y10 z10 st10 hQ10
  subst l10 y10 z10
  obtain ⟨rfl, N10q, KQ10', B10q⟩ := hQ10
  have N10 := Fr.app N9 N10q
  have KQ10 : Keep T9.heap T10.heap [b5] := KQ10'
  have K10 : Keep h0 T10.heap [] := K9.trans KQ10 (allS (Or.inr sz_b5) all0)
  -- pc 51: com/example/rosehip/rosehip/codec/BerReaderHasMorePinLaw.put by its contract rm1
  obtain ⟨_, _, ⟨T11, L11, k11, n11⟩, -, X11, ⟨Lc11, hQ11, l11, y11, z11⟩, st11⟩ := Jvm.LawKit.callS X10 hx (y := (⟨"com/example/rosehip/rosehip/codec/BerReaderHasMorePinLaw", "put", "([BIJ)V"⟩ : MethodName)) hown (mvT hZ (hw _ (List.mem_of_getElem? (i := 1) rfl))) (mvT hZ (hw _ (List.mem_of_getElem? (i := 2) rfl))) (mvT hZ (hw _ (List.mem_of_getElem? (i := 3) rfl))) (mvT hZ (hw _ (List.mem_of_getElem? (i := 4) rfl))) (by decide) (backOf (W := 0) (rm1 l Z a0 hw [] b5 (5 : Int32) q4 (p1 &&& (7 : Int32)) T10.heap n0 (Nat.le_trans (Nat.le_trans (Nat.le_trans (Nat.le_trans (Nat.le_trans (Nat.le_trans Z0 E5.1) KQ6.1) KQ7.1) KQ8.1) KQ9.1) KQ10.1) B10q g_b5 (by decide)) hZ (hw _ (List.mem_of_getElem? (i := 4) rfl)) (hw _ (List.mem_of_getElem? (i := 3) rfl)) (by decide) (by decide)) (g := (mkF m 51 #[.val (.int p1), .val (.int p2), .val (.int p3), .val (.long q4), .second, .val (.int (p1 &&& (7 : Int32))), .val (.ref b5), .unset, .unset, .unset, .unset, .unset, .unset] [(.long q4), (.int (5 : Int32)), (.ref b5)])) rfl (by rw [hml]; rfl) (argsL := [(.ref b5), (.int (5 : Int32)), (.long q4)]) (rest := []) (lenOf pd_0_0 rfl) rfl (by show 2 * 0 + _ ≤ _; exact Nat.le_of_eq rfl) (hb hby at_51) (fun _ _ => ⟨rfl, rfl, (by decide : 1 + 0 ≤ _), (by decide : 7 + 0 ≤ _)⟩)
  dsimp only [Pt.U, Pt.locs, Pt.cells, Pt.slots] at X11 l11 y11 z11 st11 hQ11
  subst l11 y11 z11
  obtain ⟨rfl, N11q, KQ11', B11q⟩ := hQ11
  have N11 := Fr.app N10 N11q
  have KQ11 : Keep T10.heap T11.heap [b5] := KQ11'
  have K11 : Keep h0 T11.heap [] := K10.trans KQ11 (allS (Or.inr sz_b5) all0)
  -- pc 59: com/example/rosehip/rosehip/codec/BerReaderHasMorePinLaw.put by its contract rm1
  obtain ⟨_, _, ⟨T12, L12, k12, n12⟩, -, X12, ⟨Lc12, hQ12, l12, y12, z12⟩, st12⟩ := Jvm.LawKit.callS X11 hx (y := (⟨"com/example/rosehip/rosehip/codec/BerReaderHasMorePinLaw", "put", "([BIJ)V"⟩ : MethodName)) hown (mvT hZ (hw _ (List.mem_of_getElem? (i := 1) rfl))) (mvT hZ (hw _ (List.mem_of_getElem? (i := 2) rfl))) (mvT hZ (hw _ (List.mem_of_getElem? (i := 3) rfl))) (mvT hZ (hw _ (List.mem_of_getElem? (i := 4) rfl))) (by decide) (backOf (W := 0) (rm1 l Z a0 hw [] b5 (6 : Int32) q4 (p1 &&& (7 : Int32)) T11.heap n0 (Nat.le_trans (Nat.le_trans (Nat.le_trans (Nat.le_trans (Nat.le_trans (Nat.le_trans (Nat.le_trans Z0 E5.1) KQ6.1) KQ7.1) KQ8.1) KQ9.1) KQ10.1) KQ11.1) B11q g_b5 (by decide)) hZ (hw _ (List.mem_of_getElem? (i := 4) rfl)) (hw _ (List.mem_of_getElem? (i := 3) rfl)) (by decide) (by decide)) (g := (mkF m 59 #[.val (.int p1), .val (.int p2), .val (.int p3), .val (.long q4), .second, .val (.int (p1 &&& (7 : Int32))), .val (.ref b5), .unset, .unset, .unset, .unset, .unset, .unset] [(.long q4), (.int (6 : Int32)), (.ref b5)])) rfl (by rw [hml]; rfl) (argsL := [(.ref b5), (.int (6 : Int32)), (.long q4)]) (rest := []) (lenOf pd_0_0 rfl) rfl (by show 2 * 0 + _ ≤ _; exact Nat.le_of_eq rfl) (hb hby at_59) (fun _ _ => ⟨rfl, rfl, (by decide : 1 + 0 ≤ _), (by decide : 7 + 0 ≤ _)⟩)
  dsimp only [Pt.U, Pt.locs, Pt.cells, Pt.slots] at X12 l12 y12 z12 st12 hQ12
  subst l12 y12 z12
  obtain ⟨rfl, N12q, KQ12', B12q⟩ := hQ12
  have N12 := Fr.app N11 N12q
  have KQ12 : Keep T11.heap T12.heap [b5] := KQ12'
  have K12 : Keep h0 T12.heap [] := K11.trans KQ12 (allS (Or.inr sz_b5) all0)
  obtain ⟨T13, h13, X13, e13, E13, A13, D13, -, st13⟩ := newO X12 hx hZ hown (hw _ (List.mem_of_getElem? (i := 5) rfl)) (hw _ (List.mem_of_getElem? (i := 6) rfl)) (hw _ (List.mem_of_getElem? (i := 7) rfl)) rfl (g := (mkF m 62 #[.val (.int p1), .val (.int p2), .val (.int p3), .val (.long q4), .second, .val (.int (p1 &&& (7 : Int32))), .val (.ref b5), .unset, .unset, .unset, .unset, .unset, .unset] [])) rfl (hb hby at_62) (by decide) (by decide)
  obtain ⟨b13, g13⟩ : ∃ z, z = T12.heap.size := ⟨_, rfl⟩      -- the fresh object's address
  rw [← g13] at A13 D13 st13      -- A13 : Exa Z h13 b13 "com/example/rosehip/rosehip/codec/BerReader"; E13 : Ext T12.heap h13 (carries every older fact: .ext E13)
  have F_bytes_b13 : Fld Z h13 b13 "com/example/rosehip/rosehip/codec/BerReader" "bytes" "[B" .null := D13 (Or.inr (hw _ (List.mem_of_getElem? (i := 18) rfl))) (ty := (.array .byte)) (by decide)
  have F_position_b13 : Fld Z h13 b13 "com/example/rosehip/rosehip/codec/BerReader" "position" "I" (.int (0 : Int32)) := D13 (Or.inl (hw _ (List.mem_of_getElem? (i := 20) rfl))) (ty := .int) (by decide)
  have F_limit_b13 : Fld Z h13 b13 "com/example/rosehip/rosehip/codec/BerReader" "limit" "I" (.int (0 : Int32)) := D13 (Or.inr (hw _ (List.mem_of_getElem? (i := 22) rfl))) (ty := .int) (by decide)
  have E_b13 := A13
  have g_b13 : n0 ≤ b13 := Nat.le_trans (Nat.le_trans (Nat.le_trans (Nat.le_trans (Nat.le_trans (Nat.le_trans (Nat.le_trans (Nat.le_trans (Nat.le_trans Z0 E5.1) KQ6.1) KQ7.1) KQ8.1) KQ9.1) KQ10.1) KQ11.1) KQ12.1) (Nat.le_of_eq g13.symm)
  have sz_b13 : h0.size ≤ b13 := (Nat.le_trans K12.1 (Nat.le_of_eq g13.symm))
  have K13 : Keep h0 h13 [] := K12.ext E13
  -- pc 68: the constructor of com/example/rosehip/rosehip/codec/BerReader by its contract rm2
  obtain ⟨_, _, ⟨T14, L14, k14, n14⟩, -, X14, ⟨Lc14, hQ14, l14, y14, z14⟩, st14⟩ := X13.specialBack hx (y := (⟨"com/example/rosehip/rosehip/codec/BerReader", "<init>", "([B)V"⟩ : MethodName)) rfl hown (mvT hZ (hw _ (List.mem_of_getElem? (i := 8) rfl))) (mvT hZ (hw _ (List.mem_of_getElem? (i := 9) rfl))) (mvT hZ (hw _ (List.mem_of_getElem? (i := 10) rfl))) (by decide) (backOf (W := 1) (rm2 l Z a0 hw [] b13 b5 (p1 &&& (7 : Int32)) .null (.int (0 : Int32)) (.int (0 : Int32)) h13 n0 (Nat.le_trans (Nat.le_trans (Nat.le_trans (Nat.le_trans (Nat.le_trans (Nat.le_trans (Nat.le_trans (Nat.le_trans (Nat.le_trans Z0 E5.1) KQ6.1) KQ7.1) KQ8.1) KQ9.1) KQ10.1) KQ11.1) KQ12.1) E13.1) E_b13 F_bytes_b13 g_b13 F_position_b13 F_limit_b13 (B12q.ext E13)) hZ (hw _ (List.mem_of_getElem? (i := 10) rfl)) (hw _ (List.mem_of_getElem? (i := 7) rfl)) (by decide) (by decide)) (g := (mkF m 68 #[.val (.int p1), .val (.int p2), .val (.int p3), .val (.long q4), .second, .val (.int (p1 &&& (7 : Int32))), .val (.ref b5), .unset, .unset, .unset, .unset, .unset, .unset] [(.ref b5), (.ref b13), (.ref b13)])) rfl (by rw [hml]; rfl) (Steps.refl _) (a := b13) (argsL := [(.ref b5)]) (rest := [(.ref b13)]) (lenOf pd_0_1 rfl) rfl (by show 2 * 0 + _ ≤ _; exact Nat.le_of_eq rfl) (hb hby at_68) (fun _ _ => ⟨rfl, e13, (by decide : 2 + 0 ≤ _), (by decide : 10 + 0 ≤ _)⟩)
  dsimp only [Pt.U, Pt.locs, Pt.cells, Pt.slots] at X14 l14 y14 z14 st14 hQ14
  subst l14 y14 z14
  obtain ⟨rfl, N14q, KQ14', E14q, Fb14q, Fp14q, Fl14q⟩ := hQ14
  have N14 := Fr.app N12 N14q
  have KQ14 : Keep h13 T14.heap [b13] := KQ14'
  have K14 : Keep h0 T14.heap [] := K13.trans KQ14 (allS (Or.inr sz_b13) all0)
  -- pc 75: com/example/rosehip/rosehip/codec/BerReader.hasMore by the contract of the body that the receiver's class selects, rm5
  obtain ⟨cq15, kq15, q15a, q15b, q15c⟩ := isOf hZ rfl E14q
  obtain ⟨_, _, ⟨T15, L15, k15, n15⟩, -, X15, ⟨Lc15, hQ15, l15, y15, z15⟩, st15⟩ := X14.virtualBack hx (y := (⟨"com/example/rosehip/rosehip/codec/BerReader", "hasMore", "()Z"⟩ : MethodName)) (z := (⟨"com/example/rosehip/rosehip/codec/BerReader", "hasMore", "()Z"⟩ : MethodName)) hown (mvT hZ (hw _ (List.mem_of_getElem? (i := 23) rfl))) (mvT hZ (hw _ (List.mem_of_getElem? (i := 24) rfl))) (notFace_of_selects (args := #[]) (mvT hZ (hw _ (List.mem_of_getElem? (i := 26) rfl)))) (mvT hZ (hw _ (List.mem_of_getElem? (i := 26) rfl))) (mvT hZ (hw _ (List.mem_of_getElem? (i := 25) rfl))) (by decide) (backOf (W := 0) (rm5 l Z a0 hw [] b13 (0 : Int32) (p1 &&& (7 : Int32)) T14.heap n0 (Nat.le_trans (Nat.le_trans (Nat.le_trans (Nat.le_trans (Nat.le_trans (Nat.le_trans (Nat.le_trans (Nat.le_trans (Nat.le_trans (Nat.le_trans Z0 E5.1) KQ6.1) KQ7.1) KQ8.1) KQ9.1) KQ10.1) KQ11.1) KQ12.1) E13.1) KQ14.1) Fp14q Fl14q) hZ (hw _ (List.mem_of_getElem? (i := 27) rfl)) (hw _ (List.mem_of_getElem? (i := 7) rfl)) (by decide) (by decide)) q15a q15c (g := (mkF m 75 #[.val (.int p1), .val (.int p2), .val (.int p3), .val (.long q4), .second, .val (.int (p1 &&& (7 : Int32))), .val (.ref b5), .val (.ref b13), .unset, .unset, .unset, .unset, .unset] [(.ref b13)])) rfl (by rw [hml]; rfl) (Steps.refl _) (argsL := []) (rest := []) (lenOf pd_0_4 rfl) rfl (by show 2 * 0 + _ ≤ _; exact Nat.le_of_eq rfl) (hb hby at_75) (fun _ _ => ⟨rfl, rfl, (by decide : 2 + 0 ≤ _), (by decide : 10 + 0 ≤ _)⟩)
  dsimp only [Pt.U, Pt.locs, Pt.cells, Pt.slots] at X15 l15 y15 z15 st15 hQ15
  subst l15 y15 z15
  obtain ⟨rfl, N15q, eh15⟩ := hQ15
  have N15 := Fr.app N14 N15q
  -- pc 99: com/example/rosehip/rosehip/codec/BerReader.hasMore by the contract of the body that the receiver's class selects, rm5
  obtain ⟨cq16, kq16, q16a, q16b, q16c⟩ := isOf hZ eh15 E14q
  obtain ⟨_, _, ⟨T16, L16, k16, n16⟩, -, X16, ⟨Lc16, hQ16, l16, y16, z16⟩, st16⟩ := X15.virtualBack hx (y := (⟨"com/example/rosehip/rosehip/codec/BerReader", "hasMore", "()Z"⟩ : MethodName)) (z := (⟨"com/example/rosehip/rosehip/codec/BerReader", "hasMore", "()Z"⟩ : MethodName)) hown (mvT hZ (hw _ (List.mem_of_getElem? (i := 23) rfl))) (mvT hZ (hw _ (List.mem_of_getElem? (i := 24) rfl))) (notFace_of_selects (args := #[]) (mvT hZ (hw _ (List.mem_of_getElem? (i := 26) rfl)))) (mvT hZ (hw _ (List.mem_of_getElem? (i := 26) rfl))) (mvT hZ (hw _ (List.mem_of_getElem? (i := 25) rfl))) (by decide) (backOf (W := 0) (rm5 l Z a0 hw [] b13 (0 : Int32) (p1 &&& (7 : Int32)) T14.heap n0 (Nat.le_trans (Nat.le_trans (Nat.le_trans (Nat.le_trans (Nat.le_trans (Nat.le_trans (Nat.le_trans (Nat.le_trans (Nat.le_trans (Nat.le_trans Z0 E5.1) KQ6.1) KQ7.1) KQ8.1) KQ9.1) KQ10.1) KQ11.1) KQ12.1) E13.1) KQ14.1) Fp14q Fl14q) hZ (hw _ (List.mem_of_getElem? (i := 27) rfl)) (hw _ (List.mem_of_getElem? (i := 7) rfl)) (by decide) (by decide)) q16a q16c (g := (mkF m 99 #[.val (.int p1), .val (.int p2), .val (.int p3), .val (.long q4), .second, .val (.int (p1 &&& (7 : Int32))), .val (.ref b5), .val (.ref b13), .val (.int (fv5 (0 : Int32) (p1 &&& (7 : Int32)))), .unset, .unset, .unset, .unset] [(.ref b13)])) rfl (by rw [hml]; rfl) (Steps.refl _) (argsL := []) (rest := []) (lenOf pd_0_4 rfl) rfl (by show 2 * 0 + _ ≤ _; exact Nat.le_of_eq rfl) (hb hby at_99) (fun _ _ => ⟨rfl, eh15, (by decide : 2 + 0 ≤ _), (by decide : 10 + 0 ≤ _)⟩)
  dsimp only [Pt.U, Pt.locs, Pt.cells, Pt.slots] at X16 l16 y16 z16 st16 hQ16
  subst l16 y16 z16
  obtain ⟨rfl, N16q, eh16⟩ := hQ16
  have N16 := Fr.app N15 N16q
  have Bnow := ((B12q.ext E13).keep KQ14 (ninS (Nat.ne_of_lt (Nat.lt_of_lt_of_le B12q.lt (Nat.le_of_eq g13.symm))) nin0))
  obtain ⟨cl_b5_164, Ar_b5, S_b5, N_b5⟩ := Bnow
  have hin164 : ¬ ((0 : Int32) < 0 ∨ cl_b5_164.slots.size ≤ ((0 : Int32)).toNatClampNeg) := inb_of S_b5 ⟨by decide, h0n⟩
  obtain ⟨T17, h17, X17, e17, W17, st17⟩ := stB X16 hx hZ eh16 Ar_b5 (j := (0 : Int32)) hin164 (g := (mkF m 164 #[.val (.int p1), .val (.int p2), .val (.int p3), .val (.long q4), .second, .val (.int (p1 &&& (7 : Int32))), .val (.ref b5), .val (.ref b13), .val (.int (fv5 (0 : Int32) (p1 &&& (7 : Int32)))), .val (.int ((p2 &&& (2147483647 : Int32)) % ((p1 &&& (7 : Int32)) - (1 : Int32)))), .val (.int (((((p3 &&& (2147483647 : Int32)) % (30 : Int32)) + (1 : Int32)) ||| ((((p3.toUInt32 >>> ((8 : Int32) &&& 31).toUInt32).toInt32) &&& (3 : Int32)) <<< ((6 : Int32) &&& 31))) ||| ((((p3.toUInt32 >>> ((10 : Int32) &&& 31).toUInt32).toInt32) &&& (1 : Int32)) <<< ((5 : Int32) &&& 31)))), .unset, .unset] [(.int ((((((p3 &&& (2147483647 : Int32)) % (30 : Int32)) + (1 : Int32)) ||| ((((p3.toUInt32 >>> ((8 : Int32) &&& 31).toUInt32).toInt32) &&& (3 : Int32)) <<< ((6 : Int32) &&& 31))) ||| ((((p3.toUInt32 >>> ((10 : Int32) &&& 31).toUInt32).toInt32) &&& (1 : Int32)) <<< ((5 : Int32) &&& 31))).toInt8.toInt32)), (.int (0 : Int32)), (.ref b5)])) rfl rfl (hb hby at_164)
  have Ar17 := Ar_b5.same W17
  have K17 : Keep h0 h17 [] := K14.wr W17 (Or.inr sz_b5)
  have N17 := Fr.snoc X17 N16 g_b5
  -- (bastore into a boolean[]: stZ in stB's place)
  have S17 : (cl_b5_164.setSlot ((0 : Int32)).toNatClampNeg (.int (nar .byte ((((((p3 &&& (2147483647 : Int32)) % (30 : Int32)) + (1 : Int32)) ||| ((((p3.toUInt32 >>> ((8 : Int32) &&& 31).toUInt32).toInt32) &&& (3 : Int32)) <<< ((6 : Int32) &&& 31))) ||| ((((p3.toUInt32 >>> ((10 : Int32) &&& 31).toUInt32).toInt32) &&& (1 : Int32)) <<< ((5 : Int32) &&& 31))).toInt8.toInt32)))).slots.size = (p1 &&& (7 : Int32)).toNatClampNeg := (own_szS _ _ _).trans S_b5
  have hin171 := inb_of (j := (1 : Int32)) S17 ⟨by decide, h2⟩
  obtain ⟨T18, h18, X18, e18, W18, st18⟩ := stB X17 hx hZ e17 Ar17 (j := (1 : Int32)) hin171 (g := (mkF m 171 #[.val (.int p1), .val (.int p2), .val (.int p3), .val (.long q4), .second, .val (.int (p1 &&& (7 : Int32))), .val (.ref b5), .val (.ref b13), .val (.int (fv5 (0 : Int32) (p1 &&& (7 : Int32)))), .val (.int ((p2 &&& (2147483647 : Int32)) % ((p1 &&& (7 : Int32)) - (1 : Int32)))), .val (.int (((((p3 &&& (2147483647 : Int32)) % (30 : Int32)) + (1 : Int32)) ||| ((((p3.toUInt32 >>> ((8 : Int32) &&& 31).toUInt32).toInt32) &&& (3 : Int32)) <<< ((6 : Int32) &&& 31))) ||| ((((p3.toUInt32 >>> ((10 : Int32) &&& 31).toUInt32).toInt32) &&& (1 : Int32)) <<< ((5 : Int32) &&& 31)))), .unset, .unset] [(.int (((p2 &&& (2147483647 : Int32)) % ((p1 &&& (7 : Int32)) - (1 : Int32))).toInt8.toInt32)), (.int (1 : Int32)), (.ref b5)])) rfl rfl (hb hby at_171)
  have B2 : By2 Z h18 b5 (p1 &&& (7 : Int32)) xx yy := by rw [hxx, hyy]; exact By2.of (Ar17.same W18) S_b5 N_b5 h2
  have K18 : Keep h0 h18 [] := K17.wr W18 (Or.inr sz_b5)
  have N18 := Fr.snoc X18 N17 g_b5
  -- (bastore into a boolean[]: stZ in stB's place)
  -- pc 174: com/example/rosehip/rosehip/codec/BerReader.read by the contract of the body that the receiver's class selects, rm6
  obtain ⟨cq19, kq19, q19a, q19b, q19c⟩ := isOf hZ e18 ((E14q.wr W17).wr W18)
  obtain ⟨_, _, ⟨T19, L19, k19, n19⟩, -, X19, ⟨Lc19, hQ19, l19, y19, z19⟩, st19⟩ := X18.virtualBack hx (y := (⟨"com/example/rosehip/rosehip/codec/BerReader", "read", "()Lcom/example/rosehip/rosehip/codec/BerReader$Element;"⟩ : MethodName)) (z := (⟨"com/example/rosehip/rosehip/codec/BerReader", "read", "()Lcom/example/rosehip/rosehip/codec/BerReader$Element;"⟩ : MethodName)) hown (mvT hZ (hw _ (List.mem_of_getElem? (i := 29) rfl))) (mvT hZ (hw _ (List.mem_of_getElem? (i := 30) rfl))) (notFace_of_selects (args := #[]) (mvT hZ (hw _ (List.mem_of_getElem? (i := 32) rfl)))) (mvT hZ (hw _ (List.mem_of_getElem? (i := 32) rfl))) (mvT hZ (hw _ (List.mem_of_getElem? (i := 31) rfl))) (by decide) (backOf (W := 0) (rm6 l Z a0 hw [] b13 (p1 &&& (7 : Int32)) b5 xx yy h18 n0 (Nat.le_trans (Nat.le_trans (Nat.le_trans (Nat.le_trans (Nat.le_trans (Nat.le_trans (Nat.le_trans (Nat.le_trans (Nat.le_trans (Nat.le_trans (Nat.le_trans (Nat.le_trans Z0 E5.1) KQ6.1) KQ7.1) KQ8.1) KQ9.1) KQ10.1) KQ11.1) KQ12.1) E13.1) KQ14.1) (Keep.of_wr W17).1) (Keep.of_wr W18).1) ((Fb14q.other W17 (Or.inl (Ne.symm (Nat.ne_of_lt (Nat.lt_of_lt_of_le B12q.lt (Nat.le_of_eq g13.symm)))))).other W18 (Or.inl (Ne.symm (Nat.ne_of_lt (Nat.lt_of_lt_of_le B12q.lt (Nat.le_of_eq g13.symm)))))) B2 h2 hid hln ((Fp14q.other W17 (Or.inl (Ne.symm (Nat.ne_of_lt (Nat.lt_of_lt_of_le B12q.lt (Nat.le_of_eq g13.symm)))))).other W18 (Or.inl (Ne.symm (Nat.ne_of_lt (Nat.lt_of_lt_of_le B12q.lt (Nat.le_of_eq g13.symm)))))) ((Fl14q.other W17 (Or.inl (Ne.symm (Nat.ne_of_lt (Nat.lt_of_lt_of_le B12q.lt (Nat.le_of_eq g13.symm)))))).other W18 (Or.inl (Ne.symm (Nat.ne_of_lt (Nat.lt_of_lt_of_le B12q.lt (Nat.le_of_eq g13.symm)))))) ((E14q.wr W17).wr W18) g_b13 hr4 hr66 hr94 hr160) hZ (hw _ (List.mem_of_getElem? (i := 33) rfl)) (hw _ (List.mem_of_getElem? (i := 7) rfl)) (by decide) (by decide)) q19a q19c (g := (mkF m 174 #[.val (.int p1), .val (.int p2), .val (.int p3), .val (.long q4), .second, .val (.int (p1 &&& (7 : Int32))), .val (.ref b5), .val (.ref b13), .val (.int (fv5 (0 : Int32) (p1 &&& (7 : Int32)))), .val (.int ((p2 &&& (2147483647 : Int32)) % ((p1 &&& (7 : Int32)) - (1 : Int32)))), .val (.int (((((p3 &&& (2147483647 : Int32)) % (30 : Int32)) + (1 : Int32)) ||| ((((p3.toUInt32 >>> ((8 : Int32) &&& 31).toUInt32).toInt32) &&& (3 : Int32)) <<< ((6 : Int32) &&& 31))) ||| ((((p3.toUInt32 >>> ((10 : Int32) &&& 31).toUInt32).toInt32) &&& (1 : Int32)) <<< ((5 : Int32) &&& 31)))), .unset, .unset] [(.ref b13)])) rfl (by rw [hml]; rfl) (Steps.refl _) (argsL := []) (rest := []) (lenOf pd_0_5 rfl) rfl (by show 2 * 0 + _ ≤ _; exact Nat.le_of_eq rfl) (hb hby at_174) (fun _ _ => ⟨rfl, e18, (by decide : 2 + 2 ≤ _), (by decide : 10 + 8 ≤ _)⟩)
  dsimp only [Pt.U, Pt.locs, Pt.cells, Pt.slots] at X19 l19 y19 z19 st19 hQ19
  subst l19 y19 z19
  obtain ⟨b19, rfl, N19q, KQ19', Ee19q, Fe19q, E19q, Fp19q, Fl19q⟩ := hQ19
  have N19 := Fr.app N18 N19q
  have KQ19 : Keep h18 T19.heap [b13] := KQ19'
  have K19 : Keep h0 T19.heap [] := K18.trans KQ19 (allS (Or.inr sz_b13) all0)
  -- pc 181: com/example/rosehip/rosehip/codec/BerReader.hasMore by the contract of the body that the receiver's class selects, rm5
  obtain ⟨cq20, kq20, q20a, q20b, q20c⟩ := isOf hZ rfl E19q
  obtain ⟨_, _, ⟨T20, L20, k20, n20⟩, -, X20, ⟨Lc20, hQ20, l20, y20, z20⟩, st20⟩ := X19.virtualBack hx (y := (⟨"com/example/rosehip/rosehip/codec/BerReader", "hasMore", "()Z"⟩ : MethodName)) (z := (⟨"com/example/rosehip/rosehip/codec/BerReader", "hasMore", "()Z"⟩ : MethodName)) hown (mvT hZ (hw _ (List.mem_of_getElem? (i := 23) rfl))) (mvT hZ (hw _ (List.mem_of_getElem? (i := 24) rfl))) (notFace_of_selects (args := #[]) (mvT hZ (hw _ (List.mem_of_getElem? (i := 26) rfl)))) (mvT hZ (hw _ (List.mem_of_getElem? (i := 26) rfl))) (mvT hZ (hw _ (List.mem_of_getElem? (i := 25) rfl))) (by decide) (backOf (W := 0) (rm5 l Z a0 hw [] b13 (own_en yy) (p1 &&& (7 : Int32)) T19.heap n0 (Nat.le_trans (Nat.le_trans (Nat.le_trans (Nat.le_trans (Nat.le_trans (Nat.le_trans (Nat.le_trans (Nat.le_trans (Nat.le_trans (Nat.le_trans (Nat.le_trans (Nat.le_trans (Nat.le_trans Z0 E5.1) KQ6.1) KQ7.1) KQ8.1) KQ9.1) KQ10.1) KQ11.1) KQ12.1) E13.1) KQ14.1) (Keep.of_wr W17).1) (Keep.of_wr W18).1) KQ19.1) Fp19q Fl19q) hZ (hw _ (List.mem_of_getElem? (i := 27) rfl)) (hw _ (List.mem_of_getElem? (i := 7) rfl)) (by decide) (by decide)) q20a q20c (g := (mkF m 181 #[.val (.int p1), .val (.int p2), .val (.int p3), .val (.long q4), .second, .val (.int (p1 &&& (7 : Int32))), .val (.ref b5), .val (.ref b13), .val (.int (fv5 (0 : Int32) (p1 &&& (7 : Int32)))), .val (.int ((p2 &&& (2147483647 : Int32)) % ((p1 &&& (7 : Int32)) - (1 : Int32)))), .val (.int (((((p3 &&& (2147483647 : Int32)) % (30 : Int32)) + (1 : Int32)) ||| ((((p3.toUInt32 >>> ((8 : Int32) &&& 31).toUInt32).toInt32) &&& (3 : Int32)) <<< ((6 : Int32) &&& 31))) ||| ((((p3.toUInt32 >>> ((10 : Int32) &&& 31).toUInt32).toInt32) &&& (1 : Int32)) <<< ((5 : Int32) &&& 31)))), .val (.ref b19), .unset] [(.ref b13)])) rfl (by rw [hml]; rfl) (Steps.refl _) (argsL := []) (rest := []) (lenOf pd_0_4 rfl) rfl (by show 2 * 0 + _ ≤ _; exact Nat.le_of_eq rfl) (hb hby at_181) (fun _ _ => ⟨rfl, rfl, (by decide : 4 + 0 ≤ _), (by decide : 18 + 0 ≤ _)⟩)
  dsimp only [Pt.U, Pt.locs, Pt.cells, Pt.slots] at X20 l20 y20 z20 st20 hQ20
  subst l20 y20 z20
  obtain ⟨rfl, N20q, eh20⟩ := hQ20
  have N20 := Fr.app N19 N20q
  -- pc 207: com/example/rosehip/rosehip/codec/BerReader$Element.end by the contract of the body that the receiver's class selects, rm14
  obtain ⟨cq21, kq21, q21a, q21b, q21c⟩ := isOf hZ eh20 Ee19q
  obtain ⟨_, _, ⟨T21, L21, k21, n21⟩, -, X21, ⟨Lc21, hQ21, l21, y21, z21⟩, st21⟩ := X20.virtualBack hx (y := (⟨"com/example/rosehip/rosehip/codec/BerReader$Element", "end", "()I"⟩ : MethodName)) (z := (⟨"com/example/rosehip/rosehip/codec/BerReader$Element", "end", "()I"⟩ : MethodName)) hown (mvT hZ (hw _ (List.mem_of_getElem? (i := 90) rfl))) (mvT hZ (hw _ (List.mem_of_getElem? (i := 91) rfl))) (notFace_of_selects (args := #[]) (mvT hZ (hw _ (List.mem_of_getElem? (i := 93) rfl)))) (mvT hZ (hw _ (List.mem_of_getElem? (i := 93) rfl))) (mvT hZ (hw _ (List.mem_of_getElem? (i := 92) rfl))) (by decide) (backOf (W := 0) (rm14 l Z a0 hw [] b19 (own_en yy) T19.heap n0 (Nat.le_trans (Nat.le_trans (Nat.le_trans (Nat.le_trans (Nat.le_trans (Nat.le_trans (Nat.le_trans (Nat.le_trans (Nat.le_trans (Nat.le_trans (Nat.le_trans (Nat.le_trans (Nat.le_trans Z0 E5.1) KQ6.1) KQ7.1) KQ8.1) KQ9.1) KQ10.1) KQ11.1) KQ12.1) E13.1) KQ14.1) (Keep.of_wr W17).1) (Keep.of_wr W18).1) KQ19.1) Fe19q) hZ (hw _ (List.mem_of_getElem? (i := 94) rfl)) (hw _ (List.mem_of_getElem? (i := 75) rfl)) (by decide) (by decide)) q21a q21c (g := (mkF m 207 #[.val (.int p1), .val (.int p2), .val (.int p3), .val (.long q4), .second, .val (.int (p1 &&& (7 : Int32))), .val (.ref b5), .val (.ref b13), .val (.int (fv5 (0 : Int32) (p1 &&& (7 : Int32)))), .val (.int ((p2 &&& (2147483647 : Int32)) % ((p1 &&& (7 : Int32)) - (1 : Int32)))), .val (.int (((((p3 &&& (2147483647 : Int32)) % (30 : Int32)) + (1 : Int32)) ||| ((((p3.toUInt32 >>> ((8 : Int32) &&& 31).toUInt32).toInt32) &&& (3 : Int32)) <<< ((6 : Int32) &&& 31))) ||| ((((p3.toUInt32 >>> ((10 : Int32) &&& 31).toUInt32).toInt32) &&& (1 : Int32)) <<< ((5 : Int32) &&& 31)))), .val (.ref b19), .val (.int (fv5 (own_en yy) (p1 &&& (7 : Int32))))] [(.ref b19)])) rfl (by rw [hml]; rfl) (Steps.refl _) (argsL := []) (rest := []) (lenOf pd_0_8 rfl) rfl (by show 2 * 0 + _ ≤ _; exact Nat.le_of_eq rfl) (hb hby at_207) (fun _ _ => ⟨rfl, eh20, (by decide : 4 + 0 ≤ _), (by decide : 18 + 0 ≤ _)⟩)
  dsimp only [Pt.U, Pt.locs, Pt.cells, Pt.slots] at X21 l21 y21 z21 st21 hQ21
  subst l21 y21 z21
  obtain ⟨rfl, N21q, eh21⟩ := hQ21
  have N21 := Fr.app N20 N21q
  -- pc 219: com/example/rosehip/rosehip/codec/BerReader.hasMore by the contract of the body that the receiver's class selects, rm5
  obtain ⟨cq22, kq22, q22a, q22b, q22c⟩ := isOf hZ eh21 E19q
  obtain ⟨_, _, ⟨T22, L22, k22, n22⟩, -, X22, ⟨Lc22, hQ22, l22, y22, z22⟩, st22⟩ := X21.virtualBack hx (y := (⟨"com/example/rosehip/rosehip/codec/BerReader", "hasMore", "()Z"⟩ : MethodName)) (z := (⟨"com/example/rosehip/rosehip/codec/BerReader", "hasMore", "()Z"⟩ : MethodName)) hown (mvT hZ (hw _ (List.mem_of_getElem? (i := 23) rfl))) (mvT hZ (hw _ (List.mem_of_getElem? (i := 24) rfl))) (notFace_of_selects (args := #[]) (mvT hZ (hw _ (List.mem_of_getElem? (i := 26) rfl)))) (mvT hZ (hw _ (List.mem_of_getElem? (i := 26) rfl))) (mvT hZ (hw _ (List.mem_of_getElem? (i := 25) rfl))) (by decide) (backOf (W := 0) (rm5 l Z a0 hw [] b13 (own_en yy) (p1 &&& (7 : Int32)) T19.heap n0 (Nat.le_trans (Nat.le_trans (Nat.le_trans (Nat.le_trans (Nat.le_trans (Nat.le_trans (Nat.le_trans (Nat.le_trans (Nat.le_trans (Nat.le_trans (Nat.le_trans (Nat.le_trans (Nat.le_trans Z0 E5.1) KQ6.1) KQ7.1) KQ8.1) KQ9.1) KQ10.1) KQ11.1) KQ12.1) E13.1) KQ14.1) (Keep.of_wr W17).1) (Keep.of_wr W18).1) KQ19.1) Fp19q Fl19q) hZ (hw _ (List.mem_of_getElem? (i := 27) rfl)) (hw _ (List.mem_of_getElem? (i := 7) rfl)) (by decide) (by decide)) q22a q22c (g := (mkF m 219 #[.val (.int p1), .val (.int p2), .val (.int p3), .val (.long q4), .second, .val (.int (p1 &&& (7 : Int32))), .val (.ref b5), .val (.ref b13), .val (.int (fv5 (0 : Int32) (p1 &&& (7 : Int32)))), .val (.int ((p2 &&& (2147483647 : Int32)) % ((p1 &&& (7 : Int32)) - (1 : Int32)))), .val (.int (((((p3 &&& (2147483647 : Int32)) % (30 : Int32)) + (1 : Int32)) ||| ((((p3.toUInt32 >>> ((8 : Int32) &&& 31).toUInt32).toInt32) &&& (3 : Int32)) <<< ((6 : Int32) &&& 31))) ||| ((((p3.toUInt32 >>> ((10 : Int32) &&& 31).toUInt32).toInt32) &&& (1 : Int32)) <<< ((5 : Int32) &&& 31)))), .val (.ref b19), .val (.int (fv5 (own_en yy) (p1 &&& (7 : Int32))))] [(.ref b13)])) rfl (by rw [hml]; rfl) (Steps.refl _) (argsL := []) (rest := []) (lenOf pd_0_4 rfl) rfl (by show 2 * 0 + _ ≤ _; exact Nat.le_of_eq rfl) (hb hby at_219) (fun _ _ => ⟨rfl, eh21, (by decide : 4 + 0 ≤ _), (by decide : 18 + 0 ≤ _)⟩)
  dsimp only [Pt.U, Pt.locs, Pt.cells, Pt.slots] at X22 l22 y22 z22 st22 hQ22
  subst l22 y22 z22
  obtain ⟨rfl, N22q, eh22⟩ := hQ22
  have N22 := Fr.app N21 N22q
  obtain ⟨fs, hr, hrun, hended, hW, hsame⟩ := X22.leave (v := some (.int (1 : Int32))) (fun h => by rw [Bd.returns] at h; cases h)
  refine ⟨_, _, pre0 _ ?_, hrun, hended, _, _, rfl, ?_, ⟨_, rfl⟩, hW, hsame.mono (by decide) (by decide)⟩
  -- 4. STEPS
  · show Steps p.tables e below (s₁.setTop (mkF m 0 #[.val (.int p1), .val (.int p2), .val (.int p3), .val (.long q4), .second, .unset, .unset, .unset, .unset, .unset, .unset, .unset, .unset] [])) _
    refine XS.iloadN X0.here hx rfl (hb hby at_0) rfl ?_
    show Steps p.tables e below (s₁.setTop (mkF m 1 #[.val (.int p1), .val (.int p2), .val (.int p3), .val (.long q4), .second, .unset, .unset, .unset, .unset, .unset, .unset, .unset, .unset] [(.int p1)])) _
    refine XS.bipush X0.here hx rfl (hb hby at_1) ?_
    show Steps p.tables e below (s₁.setTop (mkF m 3 #[.val (.int p1), .val (.int p2), .val (.int p3), .val (.long q4), .second, .unset, .unset, .unset, .unset, .unset, .unset, .unset, .unset] [(.int (7 : Int32)), (.int p1)])) _
    refine XS.iand X0.here hx rfl (hb hby at_3) rfl ?_
    show Steps p.tables e below (s₁.setTop (mkF m 4 #[.val (.int p1), .val (.int p2), .val (.int p3), .val (.long q4), .second, .unset, .unset, .unset, .unset, .unset, .unset, .unset, .unset] [(.int (p1 &&& (7 : Int32)))])) _
    refine XS.istore X0.here hx rfl (hb hby at_4) rfl (l' := #[.val (.int p1), .val (.int p2), .val (.int p3), .val (.long q4), .second, .val (.int (p1 &&& (7 : Int32))), .unset, .unset, .unset, .unset, .unset, .unset, .unset]) rfl ?_
    show Steps p.tables e below (s₁.setTop (mkF m 6 #[.val (.int p1), .val (.int p2), .val (.int p3), .val (.long q4), .second, .val (.int (p1 &&& (7 : Int32))), .unset, .unset, .unset, .unset, .unset, .unset, .unset] [])) _
    refine XS.iload X0.here hx rfl (hb hby at_6) rfl ?_
    show Steps p.tables e below (s₁.setTop (mkF m 8 #[.val (.int p1), .val (.int p2), .val (.int p3), .val (.long q4), .second, .val (.int (p1 &&& (7 : Int32))), .unset, .unset, .unset, .unset, .unset, .unset, .unset] [(.int (p1 &&& (7 : Int32)))])) _
    refine st5 _ ?_
    show Steps p.tables e below (T5.setTop (mkF m 10 #[.val (.int p1), .val (.int p2), .val (.int p3), .val (.long q4), .second, .val (.int (p1 &&& (7 : Int32))), .unset, .unset, .unset, .unset, .unset, .unset, .unset] [(.ref b5)])) _
    refine XS.astore X5.here hx rfl (hb hby at_10) rfl rfl (l' := #[.val (.int p1), .val (.int p2), .val (.int p3), .val (.long q4), .second, .val (.int (p1 &&& (7 : Int32))), .val (.ref b5), .unset, .unset, .unset, .unset, .unset, .unset]) rfl ?_
    show Steps p.tables e below (T5.setTop (mkF m 12 #[.val (.int p1), .val (.int p2), .val (.int p3), .val (.long q4), .second, .val (.int (p1 &&& (7 : Int32))), .val (.ref b5), .unset, .unset, .unset, .unset, .unset, .unset] [])) _
    refine XS.aload X5.here hx rfl (hb hby at_12) rfl rfl ?_
    show Steps p.tables e below (T5.setTop (mkF m 14 #[.val (.int p1), .val (.int p2), .val (.int p3), .val (.long q4), .second, .val (.int (p1 &&& (7 : Int32))), .val (.ref b5), .unset, .unset, .unset, .unset, .unset, .unset] [(.ref b5)])) _
    refine XS.iconst X5.here hx rfl (hb hby at_14) ?_
    show Steps p.tables e below (T5.setTop (mkF m 15 #[.val (.int p1), .val (.int p2), .val (.int p3), .val (.long q4), .second, .val (.int (p1 &&& (7 : Int32))), .val (.ref b5), .unset, .unset, .unset, .unset, .unset, .unset] [(.int (0 : Int32)), (.ref b5)])) _
    refine XS.lloadN X5.here hx rfl (hb hby at_15) rfl ?_
    show Steps p.tables e below (T5.setTop (mkF m 16 #[.val (.int p1), .val (.int p2), .val (.int p3), .val (.long q4), .second, .val (.int (p1 &&& (7 : Int32))), .val (.ref b5), .unset, .unset, .unset, .unset, .unset, .unset] [(.long q4), (.int (0 : Int32)), (.ref b5)])) _
    refine st6 _ ?_
    show Steps p.tables e below (T6.setTop (mkF m 19 #[.val (.int p1), .val (.int p2), .val (.int p3), .val (.long q4), .second, .val (.int (p1 &&& (7 : Int32))), .val (.ref b5), .unset, .unset, .unset, .unset, .unset, .unset] [])) _
    refine XS.aload X6.here hx rfl (hb hby at_19) rfl rfl ?_
    show Steps p.tables e below (T6.setTop (mkF m 21 #[.val (.int p1), .val (.int p2), .val (.int p3), .val (.long q4), .second, .val (.int (p1 &&& (7 : Int32))), .val (.ref b5), .unset, .unset, .unset, .unset, .unset, .unset] [(.ref b5)])) _
    refine XS.iconst X6.here hx rfl (hb hby at_21) ?_
    show Steps p.tables e below (T6.setTop (mkF m 22 #[.val (.int p1), .val (.int p2), .val (.int p3), .val (.long q4), .second, .val (.int (p1 &&& (7 : Int32))), .val (.ref b5), .unset, .unset, .unset, .unset, .unset, .unset] [(.int (1 : Int32)), (.ref b5)])) _
    refine XS.lloadN X6.here hx rfl (hb hby at_22) rfl ?_
    show Steps p.tables e below (T6.setTop (mkF m 23 #[.val (.int p1), .val (.int p2), .val (.int p3), .val (.long q4), .second, .val (.int (p1 &&& (7 : Int32))), .val (.ref b5), .unset, .unset, .unset, .unset, .unset, .unset] [(.long q4), (.int (1 : Int32)), (.ref b5)])) _
    refine st7 _ ?_
    show Steps p.tables e below (T7.setTop (mkF m 26 #[.val (.int p1), .val (.int p2), .val (.int p3), .val (.long q4), .second, .val (.int (p1 &&& (7 : Int32))), .val (.ref b5), .unset, .unset, .unset, .unset, .unset, .unset] [])) _
    refine XS.aload X7.here hx rfl (hb hby at_26) rfl rfl ?_
    show Steps p.tables e below (T7.setTop (mkF m 28 #[.val (.int p1), .val (.int p2), .val (.int p3), .val (.long q4), .second, .val (.int (p1 &&& (7 : Int32))), .val (.ref b5), .unset, .unset, .unset, .unset, .unset, .unset] [(.ref b5)])) _
    refine XS.iconst X7.here hx rfl (hb hby at_28) ?_
    show Steps p.tables e below (T7.setTop (mkF m 29 #[.val (.int p1), .val (.int p2), .val (.int p3), .val (.long q4), .second, .val (.int (p1 &&& (7 : Int32))), .val (.ref b5), .unset, .unset, .unset, .unset, .unset, .unset] [(.int (2 : Int32)), (.ref b5)])) _
    refine XS.lloadN X7.here hx rfl (hb hby at_29) rfl ?_
    show Steps p.tables e below (T7.setTop (mkF m 30 #[.val (.int p1), .val (.int p2), .val (.int p3), .val (.long q4), .second, .val (.int (p1 &&& (7 : Int32))), .val (.ref b5), .unset, .unset, .unset, .unset, .unset, .unset] [(.long q4), (.int (2 : Int32)), (.ref b5)])) _
    refine st8 _ ?_
    show Steps p.tables e below (T8.setTop (mkF m 33 #[.val (.int p1), .val (.int p2), .val (.int p3), .val (.long q4), .second, .val (.int (p1 &&& (7 : Int32))), .val (.ref b5), .unset, .unset, .unset, .unset, .unset, .unset] [])) _
    refine XS.aload X8.here hx rfl (hb hby at_33) rfl rfl ?_
    show Steps p.tables e below (T8.setTop (mkF m 35 #[.val (.int p1), .val (.int p2), .val (.int p3), .val (.long q4), .second, .val (.int (p1 &&& (7 : Int32))), .val (.ref b5), .unset, .unset, .unset, .unset, .unset, .unset] [(.ref b5)])) _
    refine XS.iconst X8.here hx rfl (hb hby at_35) ?_
    show Steps p.tables e below (T8.setTop (mkF m 36 #[.val (.int p1), .val (.int p2), .val (.int p3), .val (.long q4), .second, .val (.int (p1 &&& (7 : Int32))), .val (.ref b5), .unset, .unset, .unset, .unset, .unset, .unset] [(.int (3 : Int32)), (.ref b5)])) _
    refine XS.lloadN X8.here hx rfl (hb hby at_36) rfl ?_
    show Steps p.tables e below (T8.setTop (mkF m 37 #[.val (.int p1), .val (.int p2), .val (.int p3), .val (.long q4), .second, .val (.int (p1 &&& (7 : Int32))), .val (.ref b5), .unset, .unset, .unset, .unset, .unset, .unset] [(.long q4), (.int (3 : Int32)), (.ref b5)])) _
    refine st9 _ ?_
    show Steps p.tables e below (T9.setTop (mkF m 40 #[.val (.int p1), .val (.int p2), .val (.int p3), .val (.long q4), .second, .val (.int (p1 &&& (7 : Int32))), .val (.ref b5), .unset, .unset, .unset, .unset, .unset, .unset] [])) _
    refine XS.aload X9.here hx rfl (hb hby at_40) rfl rfl ?_
    show Steps p.tables e below (T9.setTop (mkF m 42 #[.val (.int p1), .val (.int p2), .val (.int p3), .val (.long q4), .second, .val (.int (p1 &&& (7 : Int32))), .val (.ref b5), .unset, .unset, .unset, .unset, .unset, .unset] [(.ref b5)])) _
    refine XS.iconst X9.here hx rfl (hb hby at_42) ?_
    show Steps p.tables e below (T9.setTop (mkF m 43 #[.val (.int p1), .val (.int p2), .val (.int p3), .val (.long q4), .second, .val (.int (p1 &&& (7 : Int32))), .val (.ref b5), .unset, .unset, .unset, .unset, .unset, .unset] [(.int (4 : Int32)), (.ref b5)])) _
    refine XS.lloadN X9.here hx rfl (hb hby at_43) rfl ?_
    show Steps p.tables e below (T9.setTop (mkF m 44 #[.val (.int p1), .val (.int p2), .val (.int p3), .val (.long q4), .second, .val (.int (p1 &&& (7 : Int32))), .val (.ref b5), .unset, .unset, .unset, .unset, .unset, .unset] [(.long q4), (.int (4 : Int32)), (.ref b5)])) _
    refine st10 _ ?_
    show Steps p.tables e below (T10.setTop (mkF m 47 #[.val (.int p1), .val (.int p2), .val (.int p3), .val (.long q4), .second, .val (.int (p1 &&& (7 : Int32))), .val (.ref b5), .unset, .unset, .unset, .unset, .unset, .unset] [])) _
    refine XS.aload X10.here hx rfl (hb hby at_47) rfl rfl ?_
    show Steps p.tables e below (T10.setTop (mkF m 49 #[.val (.int p1), .val (.int p2), .val (.int p3), .val (.long q4), .second, .val (.int (p1 &&& (7 : Int32))), .val (.ref b5), .unset, .unset, .unset, .unset, .unset, .unset] [(.ref b5)])) _
    refine XS.iconst X10.here hx rfl (hb hby at_49) ?_
    show Steps p.tables e below (T10.setTop (mkF m 50 #[.val (.int p1), .val (.int p2), .val (.int p3), .val (.long q4), .second, .val (.int (p1 &&& (7 : Int32))), .val (.ref b5), .unset, .unset, .unset, .unset, .unset, .unset] [(.int (5 : Int32)), (.ref b5)])) _
    refine XS.lloadN X10.here hx rfl (hb hby at_50) rfl ?_
    show Steps p.tables e below (T10.setTop (mkF m 51 #[.val (.int p1), .val (.int p2), .val (.int p3), .val (.long q4), .second, .val (.int (p1 &&& (7 : Int32))), .val (.ref b5), .unset, .unset, .unset, .unset, .unset, .unset] [(.long q4), (.int (5 : Int32)), (.ref b5)])) _
    refine st11 _ ?_
    show Steps p.tables e below (T11.setTop (mkF m 54 #[.val (.int p1), .val (.int p2), .val (.int p3), .val (.long q4), .second, .val (.int (p1 &&& (7 : Int32))), .val (.ref b5), .unset, .unset, .unset, .unset, .unset, .unset] [])) _
    refine XS.aload X11.here hx rfl (hb hby at_54) rfl rfl ?_
    show Steps p.tables e below (T11.setTop (mkF m 56 #[.val (.int p1), .val (.int p2), .val (.int p3), .val (.long q4), .second, .val (.int (p1 &&& (7 : Int32))), .val (.ref b5), .unset, .unset, .unset, .unset, .unset, .unset] [(.ref b5)])) _
    refine XS.bipush X11.here hx rfl (hb hby at_56) ?_
    show Steps p.tables e below (T11.setTop (mkF m 58 #[.val (.int p1), .val (.int p2), .val (.int p3), .val (.long q4), .second, .val (.int (p1 &&& (7 : Int32))), .val (.ref b5), .unset, .unset, .unset, .unset, .unset, .unset] [(.int (6 : Int32)), (.ref b5)])) _
    refine XS.lloadN X11.here hx rfl (hb hby at_58) rfl ?_
    show Steps p.tables e below (T11.setTop (mkF m 59 #[.val (.int p1), .val (.int p2), .val (.int p3), .val (.long q4), .second, .val (.int (p1 &&& (7 : Int32))), .val (.ref b5), .unset, .unset, .unset, .unset, .unset, .unset] [(.long q4), (.int (6 : Int32)), (.ref b5)])) _
    refine st12 _ ?_
    show Steps p.tables e below (T12.setTop (mkF m 62 #[.val (.int p1), .val (.int p2), .val (.int p3), .val (.long q4), .second, .val (.int (p1 &&& (7 : Int32))), .val (.ref b5), .unset, .unset, .unset, .unset, .unset, .unset] [])) _
    refine st13 _ ?_
    show Steps p.tables e below (T13.setTop (mkF m 65 #[.val (.int p1), .val (.int p2), .val (.int p3), .val (.long q4), .second, .val (.int (p1 &&& (7 : Int32))), .val (.ref b5), .unset, .unset, .unset, .unset, .unset, .unset] [(.ref b13)])) _
    refine XS.dup X13.here hx rfl (hb hby at_65) rfl rfl ?_
    show Steps p.tables e below (T13.setTop (mkF m 66 #[.val (.int p1), .val (.int p2), .val (.int p3), .val (.long q4), .second, .val (.int (p1 &&& (7 : Int32))), .val (.ref b5), .unset, .unset, .unset, .unset, .unset, .unset] [(.ref b13), (.ref b13)])) _
    refine XS.aload X13.here hx rfl (hb hby at_66) rfl rfl ?_
    show Steps p.tables e below (T13.setTop (mkF m 68 #[.val (.int p1), .val (.int p2), .val (.int p3), .val (.long q4), .second, .val (.int (p1 &&& (7 : Int32))), .val (.ref b5), .unset, .unset, .unset, .unset, .unset, .unset] [(.ref b5), (.ref b13), (.ref b13)])) _
    refine st14.trans ?_
    show Steps p.tables e below (T14.setTop (mkF m 71 #[.val (.int p1), .val (.int p2), .val (.int p3), .val (.long q4), .second, .val (.int (p1 &&& (7 : Int32))), .val (.ref b5), .unset, .unset, .unset, .unset, .unset, .unset] [(.ref b13)])) _
    refine XS.astore X14.here hx rfl (hb hby at_71) rfl rfl (l' := #[.val (.int p1), .val (.int p2), .val (.int p3), .val (.long q4), .second, .val (.int (p1 &&& (7 : Int32))), .val (.ref b5), .val (.ref b13), .unset, .unset, .unset, .unset, .unset]) rfl ?_
    show Steps p.tables e below (T14.setTop (mkF m 73 #[.val (.int p1), .val (.int p2), .val (.int p3), .val (.long q4), .second, .val (.int (p1 &&& (7 : Int32))), .val (.ref b5), .val (.ref b13), .unset, .unset, .unset, .unset, .unset] [])) _
    refine XS.aload X14.here hx rfl (hb hby at_73) rfl rfl ?_
    show Steps p.tables e below (T14.setTop (mkF m 75 #[.val (.int p1), .val (.int p2), .val (.int p3), .val (.long q4), .second, .val (.int (p1 &&& (7 : Int32))), .val (.ref b5), .val (.ref b13), .unset, .unset, .unset, .unset, .unset] [(.ref b13)])) _
    refine st15.trans ?_
    show Steps p.tables e below (T15.setTop (mkF m 78 #[.val (.int p1), .val (.int p2), .val (.int p3), .val (.long q4), .second, .val (.int (p1 &&& (7 : Int32))), .val (.ref b5), .val (.ref b13), .unset, .unset, .unset, .unset, .unset] [(.int (fv5 (0 : Int32) (p1 &&& (7 : Int32))))])) _
    refine XS.istore X15.here hx rfl (hb hby at_78) rfl (l' := #[.val (.int p1), .val (.int p2), .val (.int p3), .val (.long q4), .second, .val (.int (p1 &&& (7 : Int32))), .val (.ref b5), .val (.ref b13), .val (.int (fv5 (0 : Int32) (p1 &&& (7 : Int32)))), .unset, .unset, .unset, .unset]) rfl ?_
    show Steps p.tables e below (T15.setTop (mkF m 80 #[.val (.int p1), .val (.int p2), .val (.int p3), .val (.long q4), .second, .val (.int (p1 &&& (7 : Int32))), .val (.ref b5), .val (.ref b13), .val (.int (fv5 (0 : Int32) (p1 &&& (7 : Int32)))), .unset, .unset, .unset, .unset] [])) _
    refine XS.iload X15.here hx rfl (hb hby at_80) rfl ?_
    show Steps p.tables e below (T15.setTop (mkF m 82 #[.val (.int p1), .val (.int p2), .val (.int p3), .val (.long q4), .second, .val (.int (p1 &&& (7 : Int32))), .val (.ref b5), .val (.ref b13), .val (.int (fv5 (0 : Int32) (p1 &&& (7 : Int32)))), .unset, .unset, .unset, .unset] [(.int (fv5 (0 : Int32) (p1 &&& (7 : Int32))))])) _
    refine XS.iload X15.here hx rfl (hb hby at_82) rfl ?_
    show Steps p.tables e below (T15.setTop (mkF m 84 #[.val (.int p1), .val (.int p2), .val (.int p3), .val (.long q4), .second, .val (.int (p1 &&& (7 : Int32))), .val (.ref b5), .val (.ref b13), .val (.int (fv5 (0 : Int32) (p1 &&& (7 : Int32)))), .unset, .unset, .unset, .unset] [(.int (p1 &&& (7 : Int32))), (.int (fv5 (0 : Int32) (p1 &&& (7 : Int32))))])) _
    refine XS.ifNo X15.here hx rfl (hb hby at_84) rfl ((if0 _ _).trans (tlt hc84).2.2.2) ?_
    show Steps p.tables e below (T15.setTop (mkF m 87 #[.val (.int p1), .val (.int p2), .val (.int p3), .val (.long q4), .second, .val (.int (p1 &&& (7 : Int32))), .val (.ref b5), .val (.ref b13), .val (.int (fv5 (0 : Int32) (p1 &&& (7 : Int32)))), .unset, .unset, .unset, .unset] [(.int (fv5 (0 : Int32) (p1 &&& (7 : Int32))))])) _
    refine XS.iconst X15.here hx rfl (hb hby at_87) ?_
    show Steps p.tables e below (T15.setTop (mkF m 88 #[.val (.int p1), .val (.int p2), .val (.int p3), .val (.long q4), .second, .val (.int (p1 &&& (7 : Int32))), .val (.ref b5), .val (.ref b13), .val (.int (fv5 (0 : Int32) (p1 &&& (7 : Int32)))), .unset, .unset, .unset, .unset] [(.int (1 : Int32)), (.int (fv5 (0 : Int32) (p1 &&& (7 : Int32))))])) _
    refine XS.goto X15.here hx rfl (pc0 := 88) (pc' := 92) rfl (hb hby at_88) (by decide) (by decide) ?_
    show Steps p.tables e below (T15.setTop (mkF m 92 #[.val (.int p1), .val (.int p2), .val (.int p3), .val (.long q4), .second, .val (.int (p1 &&& (7 : Int32))), .val (.ref b5), .val (.ref b13), .val (.int (fv5 (0 : Int32) (p1 &&& (7 : Int32)))), .unset, .unset, .unset, .unset] [(.int (1 : Int32)), (.int (fv5 (0 : Int32) (p1 &&& (7 : Int32))))])) _
    refine XS.icmpYes X15.here hx rfl (pc0 := 92) (pc' := 97) rfl (hb hby at_92) rfl (teq hc92).1 (by decide) (by decide) ?_
    show Steps p.tables e below (T15.setTop (mkF m 97 #[.val (.int p1), .val (.int p2), .val (.int p3), .val (.long q4), .second, .val (.int (p1 &&& (7 : Int32))), .val (.ref b5), .val (.ref b13), .val (.int (fv5 (0 : Int32) (p1 &&& (7 : Int32)))), .unset, .unset, .unset, .unset] [])) _
    refine XS.aload X15.here hx rfl (hb hby at_97) rfl rfl ?_
    show Steps p.tables e below (T15.setTop (mkF m 99 #[.val (.int p1), .val (.int p2), .val (.int p3), .val (.long q4), .second, .val (.int (p1 &&& (7 : Int32))), .val (.ref b5), .val (.ref b13), .val (.int (fv5 (0 : Int32) (p1 &&& (7 : Int32)))), .unset, .unset, .unset, .unset] [(.ref b13)])) _
    refine st16.trans ?_
    show Steps p.tables e below (T16.setTop (mkF m 102 #[.val (.int p1), .val (.int p2), .val (.int p3), .val (.long q4), .second, .val (.int (p1 &&& (7 : Int32))), .val (.ref b5), .val (.ref b13), .val (.int (fv5 (0 : Int32) (p1 &&& (7 : Int32)))), .unset, .unset, .unset, .unset] [(.int (fv5 (0 : Int32) (p1 &&& (7 : Int32))))])) _
    refine XS.iload X16.here hx rfl (hb hby at_102) rfl ?_
    show Steps p.tables e below (T16.setTop (mkF m 104 #[.val (.int p1), .val (.int p2), .val (.int p3), .val (.long q4), .second, .val (.int (p1 &&& (7 : Int32))), .val (.ref b5), .val (.ref b13), .val (.int (fv5 (0 : Int32) (p1 &&& (7 : Int32)))), .unset, .unset, .unset, .unset] [(.int (fv5 (0 : Int32) (p1 &&& (7 : Int32)))), (.int (fv5 (0 : Int32) (p1 &&& (7 : Int32))))])) _
    refine XS.icmpYes X16.here hx rfl (pc0 := 104) (pc' := 109) rfl (hb hby at_104) rfl (teq (rfl : (fv5 (0 : Int32) (p1 &&& (7 : Int32))) = (fv5 (0 : Int32) (p1 &&& (7 : Int32))))).1 (by decide) (by decide) ?_
    show Steps p.tables e below (T16.setTop (mkF m 109 #[.val (.int p1), .val (.int p2), .val (.int p3), .val (.long q4), .second, .val (.int (p1 &&& (7 : Int32))), .val (.ref b5), .val (.ref b13), .val (.int (fv5 (0 : Int32) (p1 &&& (7 : Int32)))), .unset, .unset, .unset, .unset] [])) _
    refine XS.iload X16.here hx rfl (hb hby at_109) rfl ?_
    show Steps p.tables e below (T16.setTop (mkF m 111 #[.val (.int p1), .val (.int p2), .val (.int p3), .val (.long q4), .second, .val (.int (p1 &&& (7 : Int32))), .val (.ref b5), .val (.ref b13), .val (.int (fv5 (0 : Int32) (p1 &&& (7 : Int32)))), .unset, .unset, .unset, .unset] [(.int (p1 &&& (7 : Int32)))])) _
    refine XS.iconst X16.here hx rfl (hb hby at_111) ?_
    show Steps p.tables e below (T16.setTop (mkF m 112 #[.val (.int p1), .val (.int p2), .val (.int p3), .val (.long q4), .second, .val (.int (p1 &&& (7 : Int32))), .val (.ref b5), .val (.ref b13), .val (.int (fv5 (0 : Int32) (p1 &&& (7 : Int32)))), .unset, .unset, .unset, .unset] [(.int (2 : Int32)), (.int (p1 &&& (7 : Int32)))])) _
    refine XS.icmpYes X16.here hx rfl (pc0 := 112) (pc' := 117) rfl (hb hby at_112) rfl (flt hc112).2.1 (by decide) (by decide) ?_
    show Steps p.tables e below (T16.setTop (mkF m 117 #[.val (.int p1), .val (.int p2), .val (.int p3), .val (.long q4), .second, .val (.int (p1 &&& (7 : Int32))), .val (.ref b5), .val (.ref b13), .val (.int (fv5 (0 : Int32) (p1 &&& (7 : Int32)))), .unset, .unset, .unset, .unset] [])) _
    refine XS.iloadN X16.here hx rfl (hb hby at_117) rfl ?_
    show Steps p.tables e below (T16.setTop (mkF m 118 #[.val (.int p1), .val (.int p2), .val (.int p3), .val (.long q4), .second, .val (.int (p1 &&& (7 : Int32))), .val (.ref b5), .val (.ref b13), .val (.int (fv5 (0 : Int32) (p1 &&& (7 : Int32)))), .unset, .unset, .unset, .unset] [(.int p2)])) _
    refine X16.ldcInt hx hown (mvT hZ (hw _ (List.mem_of_getElem? (i := 28) rfl))) (g := (mkF m 118 #[.val (.int p1), .val (.int p2), .val (.int p3), .val (.long q4), .second, .val (.int (p1 &&& (7 : Int32))), .val (.ref b5), .val (.ref b13), .val (.int (fv5 (0 : Int32) (p1 &&& (7 : Int32)))), .unset, .unset, .unset, .unset] [(.int p2)])) rfl (hb hby at_118) _ ?_
    show Steps p.tables e below (T16.setTop (mkF m 120 #[.val (.int p1), .val (.int p2), .val (.int p3), .val (.long q4), .second, .val (.int (p1 &&& (7 : Int32))), .val (.ref b5), .val (.ref b13), .val (.int (fv5 (0 : Int32) (p1 &&& (7 : Int32)))), .unset, .unset, .unset, .unset] [(.int (2147483647 : Int32)), (.int p2)])) _
    refine XS.iand X16.here hx rfl (hb hby at_120) rfl ?_
    show Steps p.tables e below (T16.setTop (mkF m 121 #[.val (.int p1), .val (.int p2), .val (.int p3), .val (.long q4), .second, .val (.int (p1 &&& (7 : Int32))), .val (.ref b5), .val (.ref b13), .val (.int (fv5 (0 : Int32) (p1 &&& (7 : Int32)))), .unset, .unset, .unset, .unset] [(.int (p2 &&& (2147483647 : Int32)))])) _
    refine XS.iload X16.here hx rfl (hb hby at_121) rfl ?_
    show Steps p.tables e below (T16.setTop (mkF m 123 #[.val (.int p1), .val (.int p2), .val (.int p3), .val (.long q4), .second, .val (.int (p1 &&& (7 : Int32))), .val (.ref b5), .val (.ref b13), .val (.int (fv5 (0 : Int32) (p1 &&& (7 : Int32)))), .unset, .unset, .unset, .unset] [(.int (p1 &&& (7 : Int32))), (.int (p2 &&& (2147483647 : Int32)))])) _
    refine XS.iconst X16.here hx rfl (hb hby at_123) ?_
    show Steps p.tables e below (T16.setTop (mkF m 124 #[.val (.int p1), .val (.int p2), .val (.int p3), .val (.long q4), .second, .val (.int (p1 &&& (7 : Int32))), .val (.ref b5), .val (.ref b13), .val (.int (fv5 (0 : Int32) (p1 &&& (7 : Int32)))), .unset, .unset, .unset, .unset] [(.int (1 : Int32)), (.int (p1 &&& (7 : Int32))), (.int (p2 &&& (2147483647 : Int32)))])) _
    refine XS.isub X16.here hx rfl (hb hby at_124) rfl ?_
    show Steps p.tables e below (T16.setTop (mkF m 125 #[.val (.int p1), .val (.int p2), .val (.int p3), .val (.long q4), .second, .val (.int (p1 &&& (7 : Int32))), .val (.ref b5), .val (.ref b13), .val (.int (fv5 (0 : Int32) (p1 &&& (7 : Int32)))), .unset, .unset, .unset, .unset] [(.int ((p1 &&& (7 : Int32)) - (1 : Int32))), (.int (p2 &&& (2147483647 : Int32)))])) _
    refine own_irem X16.here hx rfl (hb hby at_125) rfl hnz125 ?_
    show Steps p.tables e below (T16.setTop (mkF m 126 #[.val (.int p1), .val (.int p2), .val (.int p3), .val (.long q4), .second, .val (.int (p1 &&& (7 : Int32))), .val (.ref b5), .val (.ref b13), .val (.int (fv5 (0 : Int32) (p1 &&& (7 : Int32)))), .unset, .unset, .unset, .unset] [(.int ((p2 &&& (2147483647 : Int32)) % ((p1 &&& (7 : Int32)) - (1 : Int32))))])) _
    refine XS.istore X16.here hx rfl (hb hby at_126) rfl (l' := #[.val (.int p1), .val (.int p2), .val (.int p3), .val (.long q4), .second, .val (.int (p1 &&& (7 : Int32))), .val (.ref b5), .val (.ref b13), .val (.int (fv5 (0 : Int32) (p1 &&& (7 : Int32)))), .val (.int ((p2 &&& (2147483647 : Int32)) % ((p1 &&& (7 : Int32)) - (1 : Int32)))), .unset, .unset, .unset]) rfl ?_
    show Steps p.tables e below (T16.setTop (mkF m 128 #[.val (.int p1), .val (.int p2), .val (.int p3), .val (.long q4), .second, .val (.int (p1 &&& (7 : Int32))), .val (.ref b5), .val (.ref b13), .val (.int (fv5 (0 : Int32) (p1 &&& (7 : Int32)))), .val (.int ((p2 &&& (2147483647 : Int32)) % ((p1 &&& (7 : Int32)) - (1 : Int32)))), .unset, .unset, .unset] [])) _
    refine XS.iloadN X16.here hx rfl (hb hby at_128) rfl ?_
    show Steps p.tables e below (T16.setTop (mkF m 129 #[.val (.int p1), .val (.int p2), .val (.int p3), .val (.long q4), .second, .val (.int (p1 &&& (7 : Int32))), .val (.ref b5), .val (.ref b13), .val (.int (fv5 (0 : Int32) (p1 &&& (7 : Int32)))), .val (.int ((p2 &&& (2147483647 : Int32)) % ((p1 &&& (7 : Int32)) - (1 : Int32)))), .unset, .unset, .unset] [(.int p3)])) _
    refine X16.ldcInt hx hown (mvT hZ (hw _ (List.mem_of_getElem? (i := 28) rfl))) (g := (mkF m 129 #[.val (.int p1), .val (.int p2), .val (.int p3), .val (.long q4), .second, .val (.int (p1 &&& (7 : Int32))), .val (.ref b5), .val (.ref b13), .val (.int (fv5 (0 : Int32) (p1 &&& (7 : Int32)))), .val (.int ((p2 &&& (2147483647 : Int32)) % ((p1 &&& (7 : Int32)) - (1 : Int32)))), .unset, .unset, .unset] [(.int p3)])) rfl (hb hby at_129) _ ?_
    show Steps p.tables e below (T16.setTop (mkF m 131 #[.val (.int p1), .val (.int p2), .val (.int p3), .val (.long q4), .second, .val (.int (p1 &&& (7 : Int32))), .val (.ref b5), .val (.ref b13), .val (.int (fv5 (0 : Int32) (p1 &&& (7 : Int32)))), .val (.int ((p2 &&& (2147483647 : Int32)) % ((p1 &&& (7 : Int32)) - (1 : Int32)))), .unset, .unset, .unset] [(.int (2147483647 : Int32)), (.int p3)])) _
    refine XS.iand X16.here hx rfl (hb hby at_131) rfl ?_
    show Steps p.tables e below (T16.setTop (mkF m 132 #[.val (.int p1), .val (.int p2), .val (.int p3), .val (.long q4), .second, .val (.int (p1 &&& (7 : Int32))), .val (.ref b5), .val (.ref b13), .val (.int (fv5 (0 : Int32) (p1 &&& (7 : Int32)))), .val (.int ((p2 &&& (2147483647 : Int32)) % ((p1 &&& (7 : Int32)) - (1 : Int32)))), .unset, .unset, .unset] [(.int (p3 &&& (2147483647 : Int32)))])) _
    refine XS.bipush X16.here hx rfl (hb hby at_132) ?_
    show Steps p.tables e below (T16.setTop (mkF m 134 #[.val (.int p1), .val (.int p2), .val (.int p3), .val (.long q4), .second, .val (.int (p1 &&& (7 : Int32))), .val (.ref b5), .val (.ref b13), .val (.int (fv5 (0 : Int32) (p1 &&& (7 : Int32)))), .val (.int ((p2 &&& (2147483647 : Int32)) % ((p1 &&& (7 : Int32)) - (1 : Int32)))), .unset, .unset, .unset] [(.int (30 : Int32)), (.int (p3 &&& (2147483647 : Int32)))])) _
    refine own_irem X16.here hx rfl (hb hby at_134) rfl hnz134 ?_
    show Steps p.tables e below (T16.setTop (mkF m 135 #[.val (.int p1), .val (.int p2), .val (.int p3), .val (.long q4), .second, .val (.int (p1 &&& (7 : Int32))), .val (.ref b5), .val (.ref b13), .val (.int (fv5 (0 : Int32) (p1 &&& (7 : Int32)))), .val (.int ((p2 &&& (2147483647 : Int32)) % ((p1 &&& (7 : Int32)) - (1 : Int32)))), .unset, .unset, .unset] [(.int ((p3 &&& (2147483647 : Int32)) % (30 : Int32)))])) _
    refine XS.iconst X16.here hx rfl (hb hby at_135) ?_
    show Steps p.tables e below (T16.setTop (mkF m 136 #[.val (.int p1), .val (.int p2), .val (.int p3), .val (.long q4), .second, .val (.int (p1 &&& (7 : Int32))), .val (.ref b5), .val (.ref b13), .val (.int (fv5 (0 : Int32) (p1 &&& (7 : Int32)))), .val (.int ((p2 &&& (2147483647 : Int32)) % ((p1 &&& (7 : Int32)) - (1 : Int32)))), .unset, .unset, .unset] [(.int (1 : Int32)), (.int ((p3 &&& (2147483647 : Int32)) % (30 : Int32)))])) _
    refine XS.iadd X16.here hx rfl (hb hby at_136) rfl ?_
    show Steps p.tables e below (T16.setTop (mkF m 137 #[.val (.int p1), .val (.int p2), .val (.int p3), .val (.long q4), .second, .val (.int (p1 &&& (7 : Int32))), .val (.ref b5), .val (.ref b13), .val (.int (fv5 (0 : Int32) (p1 &&& (7 : Int32)))), .val (.int ((p2 &&& (2147483647 : Int32)) % ((p1 &&& (7 : Int32)) - (1 : Int32)))), .unset, .unset, .unset] [(.int (((p3 &&& (2147483647 : Int32)) % (30 : Int32)) + (1 : Int32)))])) _
    refine XS.iloadN X16.here hx rfl (hb hby at_137) rfl ?_
    show Steps p.tables e below (T16.setTop (mkF m 138 #[.val (.int p1), .val (.int p2), .val (.int p3), .val (.long q4), .second, .val (.int (p1 &&& (7 : Int32))), .val (.ref b5), .val (.ref b13), .val (.int (fv5 (0 : Int32) (p1 &&& (7 : Int32)))), .val (.int ((p2 &&& (2147483647 : Int32)) % ((p1 &&& (7 : Int32)) - (1 : Int32)))), .unset, .unset, .unset] [(.int p3), (.int (((p3 &&& (2147483647 : Int32)) % (30 : Int32)) + (1 : Int32)))])) _
    refine XS.bipush X16.here hx rfl (hb hby at_138) ?_
    show Steps p.tables e below (T16.setTop (mkF m 140 #[.val (.int p1), .val (.int p2), .val (.int p3), .val (.long q4), .second, .val (.int (p1 &&& (7 : Int32))), .val (.ref b5), .val (.ref b13), .val (.int (fv5 (0 : Int32) (p1 &&& (7 : Int32)))), .val (.int ((p2 &&& (2147483647 : Int32)) % ((p1 &&& (7 : Int32)) - (1 : Int32)))), .unset, .unset, .unset] [(.int (8 : Int32)), (.int p3), (.int (((p3 &&& (2147483647 : Int32)) % (30 : Int32)) + (1 : Int32)))])) _
    refine XS.iushr X16.here hx rfl (hb hby at_140) rfl ?_
    show Steps p.tables e below (T16.setTop (mkF m 141 #[.val (.int p1), .val (.int p2), .val (.int p3), .val (.long q4), .second, .val (.int (p1 &&& (7 : Int32))), .val (.ref b5), .val (.ref b13), .val (.int (fv5 (0 : Int32) (p1 &&& (7 : Int32)))), .val (.int ((p2 &&& (2147483647 : Int32)) % ((p1 &&& (7 : Int32)) - (1 : Int32)))), .unset, .unset, .unset] [(.int ((p3.toUInt32 >>> ((8 : Int32) &&& 31).toUInt32).toInt32)), (.int (((p3 &&& (2147483647 : Int32)) % (30 : Int32)) + (1 : Int32)))])) _
    refine XS.iconst X16.here hx rfl (hb hby at_141) ?_
    show Steps p.tables e below (T16.setTop (mkF m 142 #[.val (.int p1), .val (.int p2), .val (.int p3), .val (.long q4), .second, .val (.int (p1 &&& (7 : Int32))), .val (.ref b5), .val (.ref b13), .val (.int (fv5 (0 : Int32) (p1 &&& (7 : Int32)))), .val (.int ((p2 &&& (2147483647 : Int32)) % ((p1 &&& (7 : Int32)) - (1 : Int32)))), .unset, .unset, .unset] [(.int (3 : Int32)), (.int ((p3.toUInt32 >>> ((8 : Int32) &&& 31).toUInt32).toInt32)), (.int (((p3 &&& (2147483647 : Int32)) % (30 : Int32)) + (1 : Int32)))])) _
    refine XS.iand X16.here hx rfl (hb hby at_142) rfl ?_
    show Steps p.tables e below (T16.setTop (mkF m 143 #[.val (.int p1), .val (.int p2), .val (.int p3), .val (.long q4), .second, .val (.int (p1 &&& (7 : Int32))), .val (.ref b5), .val (.ref b13), .val (.int (fv5 (0 : Int32) (p1 &&& (7 : Int32)))), .val (.int ((p2 &&& (2147483647 : Int32)) % ((p1 &&& (7 : Int32)) - (1 : Int32)))), .unset, .unset, .unset] [(.int (((p3.toUInt32 >>> ((8 : Int32) &&& 31).toUInt32).toInt32) &&& (3 : Int32))), (.int (((p3 &&& (2147483647 : Int32)) % (30 : Int32)) + (1 : Int32)))])) _
    refine XS.bipush X16.here hx rfl (hb hby at_143) ?_
    show Steps p.tables e below (T16.setTop (mkF m 145 #[.val (.int p1), .val (.int p2), .val (.int p3), .val (.long q4), .second, .val (.int (p1 &&& (7 : Int32))), .val (.ref b5), .val (.ref b13), .val (.int (fv5 (0 : Int32) (p1 &&& (7 : Int32)))), .val (.int ((p2 &&& (2147483647 : Int32)) % ((p1 &&& (7 : Int32)) - (1 : Int32)))), .unset, .unset, .unset] [(.int (6 : Int32)), (.int (((p3.toUInt32 >>> ((8 : Int32) &&& 31).toUInt32).toInt32) &&& (3 : Int32))), (.int (((p3 &&& (2147483647 : Int32)) % (30 : Int32)) + (1 : Int32)))])) _
    refine XS.ishl X16.here hx rfl (hb hby at_145) rfl ?_
    show Steps p.tables e below (T16.setTop (mkF m 146 #[.val (.int p1), .val (.int p2), .val (.int p3), .val (.long q4), .second, .val (.int (p1 &&& (7 : Int32))), .val (.ref b5), .val (.ref b13), .val (.int (fv5 (0 : Int32) (p1 &&& (7 : Int32)))), .val (.int ((p2 &&& (2147483647 : Int32)) % ((p1 &&& (7 : Int32)) - (1 : Int32)))), .unset, .unset, .unset] [(.int ((((p3.toUInt32 >>> ((8 : Int32) &&& 31).toUInt32).toInt32) &&& (3 : Int32)) <<< ((6 : Int32) &&& 31))), (.int (((p3 &&& (2147483647 : Int32)) % (30 : Int32)) + (1 : Int32)))])) _
    refine XS.ior X16.here hx rfl (hb hby at_146) rfl ?_
    show Steps p.tables e below (T16.setTop (mkF m 147 #[.val (.int p1), .val (.int p2), .val (.int p3), .val (.long q4), .second, .val (.int (p1 &&& (7 : Int32))), .val (.ref b5), .val (.ref b13), .val (.int (fv5 (0 : Int32) (p1 &&& (7 : Int32)))), .val (.int ((p2 &&& (2147483647 : Int32)) % ((p1 &&& (7 : Int32)) - (1 : Int32)))), .unset, .unset, .unset] [(.int ((((p3 &&& (2147483647 : Int32)) % (30 : Int32)) + (1 : Int32)) ||| ((((p3.toUInt32 >>> ((8 : Int32) &&& 31).toUInt32).toInt32) &&& (3 : Int32)) <<< ((6 : Int32) &&& 31))))])) _
    refine XS.iloadN X16.here hx rfl (hb hby at_147) rfl ?_
    show Steps p.tables e below (T16.setTop (mkF m 148 #[.val (.int p1), .val (.int p2), .val (.int p3), .val (.long q4), .second, .val (.int (p1 &&& (7 : Int32))), .val (.ref b5), .val (.ref b13), .val (.int (fv5 (0 : Int32) (p1 &&& (7 : Int32)))), .val (.int ((p2 &&& (2147483647 : Int32)) % ((p1 &&& (7 : Int32)) - (1 : Int32)))), .unset, .unset, .unset] [(.int p3), (.int ((((p3 &&& (2147483647 : Int32)) % (30 : Int32)) + (1 : Int32)) ||| ((((p3.toUInt32 >>> ((8 : Int32) &&& 31).toUInt32).toInt32) &&& (3 : Int32)) <<< ((6 : Int32) &&& 31))))])) _
    refine XS.bipush X16.here hx rfl (hb hby at_148) ?_
    show Steps p.tables e below (T16.setTop (mkF m 150 #[.val (.int p1), .val (.int p2), .val (.int p3), .val (.long q4), .second, .val (.int (p1 &&& (7 : Int32))), .val (.ref b5), .val (.ref b13), .val (.int (fv5 (0 : Int32) (p1 &&& (7 : Int32)))), .val (.int ((p2 &&& (2147483647 : Int32)) % ((p1 &&& (7 : Int32)) - (1 : Int32)))), .unset, .unset, .unset] [(.int (10 : Int32)), (.int p3), (.int ((((p3 &&& (2147483647 : Int32)) % (30 : Int32)) + (1 : Int32)) ||| ((((p3.toUInt32 >>> ((8 : Int32) &&& 31).toUInt32).toInt32) &&& (3 : Int32)) <<< ((6 : Int32) &&& 31))))])) _
    refine XS.iushr X16.here hx rfl (hb hby at_150) rfl ?_
    show Steps p.tables e below (T16.setTop (mkF m 151 #[.val (.int p1), .val (.int p2), .val (.int p3), .val (.long q4), .second, .val (.int (p1 &&& (7 : Int32))), .val (.ref b5), .val (.ref b13), .val (.int (fv5 (0 : Int32) (p1 &&& (7 : Int32)))), .val (.int ((p2 &&& (2147483647 : Int32)) % ((p1 &&& (7 : Int32)) - (1 : Int32)))), .unset, .unset, .unset] [(.int ((p3.toUInt32 >>> ((10 : Int32) &&& 31).toUInt32).toInt32)), (.int ((((p3 &&& (2147483647 : Int32)) % (30 : Int32)) + (1 : Int32)) ||| ((((p3.toUInt32 >>> ((8 : Int32) &&& 31).toUInt32).toInt32) &&& (3 : Int32)) <<< ((6 : Int32) &&& 31))))])) _
    refine XS.iconst X16.here hx rfl (hb hby at_151) ?_
    show Steps p.tables e below (T16.setTop (mkF m 152 #[.val (.int p1), .val (.int p2), .val (.int p3), .val (.long q4), .second, .val (.int (p1 &&& (7 : Int32))), .val (.ref b5), .val (.ref b13), .val (.int (fv5 (0 : Int32) (p1 &&& (7 : Int32)))), .val (.int ((p2 &&& (2147483647 : Int32)) % ((p1 &&& (7 : Int32)) - (1 : Int32)))), .unset, .unset, .unset] [(.int (1 : Int32)), (.int ((p3.toUInt32 >>> ((10 : Int32) &&& 31).toUInt32).toInt32)), (.int ((((p3 &&& (2147483647 : Int32)) % (30 : Int32)) + (1 : Int32)) ||| ((((p3.toUInt32 >>> ((8 : Int32) &&& 31).toUInt32).toInt32) &&& (3 : Int32)) <<< ((6 : Int32) &&& 31))))])) _
    refine XS.iand X16.here hx rfl (hb hby at_152) rfl ?_
    show Steps p.tables e below (T16.setTop (mkF m 153 #[.val (.int p1), .val (.int p2), .val (.int p3), .val (.long q4), .second, .val (.int (p1 &&& (7 : Int32))), .val (.ref b5), .val (.ref b13), .val (.int (fv5 (0 : Int32) (p1 &&& (7 : Int32)))), .val (.int ((p2 &&& (2147483647 : Int32)) % ((p1 &&& (7 : Int32)) - (1 : Int32)))), .unset, .unset, .unset] [(.int (((p3.toUInt32 >>> ((10 : Int32) &&& 31).toUInt32).toInt32) &&& (1 : Int32))), (.int ((((p3 &&& (2147483647 : Int32)) % (30 : Int32)) + (1 : Int32)) ||| ((((p3.toUInt32 >>> ((8 : Int32) &&& 31).toUInt32).toInt32) &&& (3 : Int32)) <<< ((6 : Int32) &&& 31))))])) _
    refine XS.iconst X16.here hx rfl (hb hby at_153) ?_
    show Steps p.tables e below (T16.setTop (mkF m 154 #[.val (.int p1), .val (.int p2), .val (.int p3), .val (.long q4), .second, .val (.int (p1 &&& (7 : Int32))), .val (.ref b5), .val (.ref b13), .val (.int (fv5 (0 : Int32) (p1 &&& (7 : Int32)))), .val (.int ((p2 &&& (2147483647 : Int32)) % ((p1 &&& (7 : Int32)) - (1 : Int32)))), .unset, .unset, .unset] [(.int (5 : Int32)), (.int (((p3.toUInt32 >>> ((10 : Int32) &&& 31).toUInt32).toInt32) &&& (1 : Int32))), (.int ((((p3 &&& (2147483647 : Int32)) % (30 : Int32)) + (1 : Int32)) ||| ((((p3.toUInt32 >>> ((8 : Int32) &&& 31).toUInt32).toInt32) &&& (3 : Int32)) <<< ((6 : Int32) &&& 31))))])) _
    refine XS.ishl X16.here hx rfl (hb hby at_154) rfl ?_
    show Steps p.tables e below (T16.setTop (mkF m 155 #[.val (.int p1), .val (.int p2), .val (.int p3), .val (.long q4), .second, .val (.int (p1 &&& (7 : Int32))), .val (.ref b5), .val (.ref b13), .val (.int (fv5 (0 : Int32) (p1 &&& (7 : Int32)))), .val (.int ((p2 &&& (2147483647 : Int32)) % ((p1 &&& (7 : Int32)) - (1 : Int32)))), .unset, .unset, .unset] [(.int ((((p3.toUInt32 >>> ((10 : Int32) &&& 31).toUInt32).toInt32) &&& (1 : Int32)) <<< ((5 : Int32) &&& 31))), (.int ((((p3 &&& (2147483647 : Int32)) % (30 : Int32)) + (1 : Int32)) ||| ((((p3.toUInt32 >>> ((8 : Int32) &&& 31).toUInt32).toInt32) &&& (3 : Int32)) <<< ((6 : Int32) &&& 31))))])) _
    refine XS.ior X16.here hx rfl (hb hby at_155) rfl ?_
    show Steps p.tables e below (T16.setTop (mkF m 156 #[.val (.int p1), .val (.int p2), .val (.int p3), .val (.long q4), .second, .val (.int (p1 &&& (7 : Int32))), .val (.ref b5), .val (.ref b13), .val (.int (fv5 (0 : Int32) (p1 &&& (7 : Int32)))), .val (.int ((p2 &&& (2147483647 : Int32)) % ((p1 &&& (7 : Int32)) - (1 : Int32)))), .unset, .unset, .unset] [(.int (((((p3 &&& (2147483647 : Int32)) % (30 : Int32)) + (1 : Int32)) ||| ((((p3.toUInt32 >>> ((8 : Int32) &&& 31).toUInt32).toInt32) &&& (3 : Int32)) <<< ((6 : Int32) &&& 31))) ||| ((((p3.toUInt32 >>> ((10 : Int32) &&& 31).toUInt32).toInt32) &&& (1 : Int32)) <<< ((5 : Int32) &&& 31))))])) _
    refine XS.istore X16.here hx rfl (hb hby at_156) rfl (l' := #[.val (.int p1), .val (.int p2), .val (.int p3), .val (.long q4), .second, .val (.int (p1 &&& (7 : Int32))), .val (.ref b5), .val (.ref b13), .val (.int (fv5 (0 : Int32) (p1 &&& (7 : Int32)))), .val (.int ((p2 &&& (2147483647 : Int32)) % ((p1 &&& (7 : Int32)) - (1 : Int32)))), .val (.int (((((p3 &&& (2147483647 : Int32)) % (30 : Int32)) + (1 : Int32)) ||| ((((p3.toUInt32 >>> ((8 : Int32) &&& 31).toUInt32).toInt32) &&& (3 : Int32)) <<< ((6 : Int32) &&& 31))) ||| ((((p3.toUInt32 >>> ((10 : Int32) &&& 31).toUInt32).toInt32) &&& (1 : Int32)) <<< ((5 : Int32) &&& 31)))), .unset, .unset]) rfl ?_
    show Steps p.tables e below (T16.setTop (mkF m 158 #[.val (.int p1), .val (.int p2), .val (.int p3), .val (.long q4), .second, .val (.int (p1 &&& (7 : Int32))), .val (.ref b5), .val (.ref b13), .val (.int (fv5 (0 : Int32) (p1 &&& (7 : Int32)))), .val (.int ((p2 &&& (2147483647 : Int32)) % ((p1 &&& (7 : Int32)) - (1 : Int32)))), .val (.int (((((p3 &&& (2147483647 : Int32)) % (30 : Int32)) + (1 : Int32)) ||| ((((p3.toUInt32 >>> ((8 : Int32) &&& 31).toUInt32).toInt32) &&& (3 : Int32)) <<< ((6 : Int32) &&& 31))) ||| ((((p3.toUInt32 >>> ((10 : Int32) &&& 31).toUInt32).toInt32) &&& (1 : Int32)) <<< ((5 : Int32) &&& 31)))), .unset, .unset] [])) _
    refine XS.aload X16.here hx rfl (hb hby at_158) rfl rfl ?_
    show Steps p.tables e below (T16.setTop (mkF m 160 #[.val (.int p1), .val (.int p2), .val (.int p3), .val (.long q4), .second, .val (.int (p1 &&& (7 : Int32))), .val (.ref b5), .val (.ref b13), .val (.int (fv5 (0 : Int32) (p1 &&& (7 : Int32)))), .val (.int ((p2 &&& (2147483647 : Int32)) % ((p1 &&& (7 : Int32)) - (1 : Int32)))), .val (.int (((((p3 &&& (2147483647 : Int32)) % (30 : Int32)) + (1 : Int32)) ||| ((((p3.toUInt32 >>> ((8 : Int32) &&& 31).toUInt32).toInt32) &&& (3 : Int32)) <<< ((6 : Int32) &&& 31))) ||| ((((p3.toUInt32 >>> ((10 : Int32) &&& 31).toUInt32).toInt32) &&& (1 : Int32)) <<< ((5 : Int32) &&& 31)))), .unset, .unset] [(.ref b5)])) _
    refine XS.iconst X16.here hx rfl (hb hby at_160) ?_
    show Steps p.tables e below (T16.setTop (mkF m 161 #[.val (.int p1), .val (.int p2), .val (.int p3), .val (.long q4), .second, .val (.int (p1 &&& (7 : Int32))), .val (.ref b5), .val (.ref b13), .val (.int (fv5 (0 : Int32) (p1 &&& (7 : Int32)))), .val (.int ((p2 &&& (2147483647 : Int32)) % ((p1 &&& (7 : Int32)) - (1 : Int32)))), .val (.int (((((p3 &&& (2147483647 : Int32)) % (30 : Int32)) + (1 : Int32)) ||| ((((p3.toUInt32 >>> ((8 : Int32) &&& 31).toUInt32).toInt32) &&& (3 : Int32)) <<< ((6 : Int32) &&& 31))) ||| ((((p3.toUInt32 >>> ((10 : Int32) &&& 31).toUInt32).toInt32) &&& (1 : Int32)) <<< ((5 : Int32) &&& 31)))), .unset, .unset] [(.int (0 : Int32)), (.ref b5)])) _
    refine XS.iload X16.here hx rfl (hb hby at_161) rfl ?_
    show Steps p.tables e below (T16.setTop (mkF m 163 #[.val (.int p1), .val (.int p2), .val (.int p3), .val (.long q4), .second, .val (.int (p1 &&& (7 : Int32))), .val (.ref b5), .val (.ref b13), .val (.int (fv5 (0 : Int32) (p1 &&& (7 : Int32)))), .val (.int ((p2 &&& (2147483647 : Int32)) % ((p1 &&& (7 : Int32)) - (1 : Int32)))), .val (.int (((((p3 &&& (2147483647 : Int32)) % (30 : Int32)) + (1 : Int32)) ||| ((((p3.toUInt32 >>> ((8 : Int32) &&& 31).toUInt32).toInt32) &&& (3 : Int32)) <<< ((6 : Int32) &&& 31))) ||| ((((p3.toUInt32 >>> ((10 : Int32) &&& 31).toUInt32).toInt32) &&& (1 : Int32)) <<< ((5 : Int32) &&& 31)))), .unset, .unset] [(.int (((((p3 &&& (2147483647 : Int32)) % (30 : Int32)) + (1 : Int32)) ||| ((((p3.toUInt32 >>> ((8 : Int32) &&& 31).toUInt32).toInt32) &&& (3 : Int32)) <<< ((6 : Int32) &&& 31))) ||| ((((p3.toUInt32 >>> ((10 : Int32) &&& 31).toUInt32).toInt32) &&& (1 : Int32)) <<< ((5 : Int32) &&& 31)))), (.int (0 : Int32)), (.ref b5)])) _
    refine XS.i2b X16.here hx rfl (hb hby at_163) rfl ?_
    show Steps p.tables e below (T16.setTop (mkF m 164 #[.val (.int p1), .val (.int p2), .val (.int p3), .val (.long q4), .second, .val (.int (p1 &&& (7 : Int32))), .val (.ref b5), .val (.ref b13), .val (.int (fv5 (0 : Int32) (p1 &&& (7 : Int32)))), .val (.int ((p2 &&& (2147483647 : Int32)) % ((p1 &&& (7 : Int32)) - (1 : Int32)))), .val (.int (((((p3 &&& (2147483647 : Int32)) % (30 : Int32)) + (1 : Int32)) ||| ((((p3.toUInt32 >>> ((8 : Int32) &&& 31).toUInt32).toInt32) &&& (3 : Int32)) <<< ((6 : Int32) &&& 31))) ||| ((((p3.toUInt32 >>> ((10 : Int32) &&& 31).toUInt32).toInt32) &&& (1 : Int32)) <<< ((5 : Int32) &&& 31)))), .unset, .unset] [(.int ((((((p3 &&& (2147483647 : Int32)) % (30 : Int32)) + (1 : Int32)) ||| ((((p3.toUInt32 >>> ((8 : Int32) &&& 31).toUInt32).toInt32) &&& (3 : Int32)) <<< ((6 : Int32) &&& 31))) ||| ((((p3.toUInt32 >>> ((10 : Int32) &&& 31).toUInt32).toInt32) &&& (1 : Int32)) <<< ((5 : Int32) &&& 31))).toInt8.toInt32)), (.int (0 : Int32)), (.ref b5)])) _
    refine st17 _ ?_
    show Steps p.tables e below (T17.setTop (mkF m 165 #[.val (.int p1), .val (.int p2), .val (.int p3), .val (.long q4), .second, .val (.int (p1 &&& (7 : Int32))), .val (.ref b5), .val (.ref b13), .val (.int (fv5 (0 : Int32) (p1 &&& (7 : Int32)))), .val (.int ((p2 &&& (2147483647 : Int32)) % ((p1 &&& (7 : Int32)) - (1 : Int32)))), .val (.int (((((p3 &&& (2147483647 : Int32)) % (30 : Int32)) + (1 : Int32)) ||| ((((p3.toUInt32 >>> ((8 : Int32) &&& 31).toUInt32).toInt32) &&& (3 : Int32)) <<< ((6 : Int32) &&& 31))) ||| ((((p3.toUInt32 >>> ((10 : Int32) &&& 31).toUInt32).toInt32) &&& (1 : Int32)) <<< ((5 : Int32) &&& 31)))), .unset, .unset] [])) _
    refine XS.aload X17.here hx rfl (hb hby at_165) rfl rfl ?_
    show Steps p.tables e below (T17.setTop (mkF m 167 #[.val (.int p1), .val (.int p2), .val (.int p3), .val (.long q4), .second, .val (.int (p1 &&& (7 : Int32))), .val (.ref b5), .val (.ref b13), .val (.int (fv5 (0 : Int32) (p1 &&& (7 : Int32)))), .val (.int ((p2 &&& (2147483647 : Int32)) % ((p1 &&& (7 : Int32)) - (1 : Int32)))), .val (.int (((((p3 &&& (2147483647 : Int32)) % (30 : Int32)) + (1 : Int32)) ||| ((((p3.toUInt32 >>> ((8 : Int32) &&& 31).toUInt32).toInt32) &&& (3 : Int32)) <<< ((6 : Int32) &&& 31))) ||| ((((p3.toUInt32 >>> ((10 : Int32) &&& 31).toUInt32).toInt32) &&& (1 : Int32)) <<< ((5 : Int32) &&& 31)))), .unset, .unset] [(.ref b5)])) _
    refine XS.iconst X17.here hx rfl (hb hby at_167) ?_
    show Steps p.tables e below (T17.setTop (mkF m 168 #[.val (.int p1), .val (.int p2), .val (.int p3), .val (.long q4), .second, .val (.int (p1 &&& (7 : Int32))), .val (.ref b5), .val (.ref b13), .val (.int (fv5 (0 : Int32) (p1 &&& (7 : Int32)))), .val (.int ((p2 &&& (2147483647 : Int32)) % ((p1 &&& (7 : Int32)) - (1 : Int32)))), .val (.int (((((p3 &&& (2147483647 : Int32)) % (30 : Int32)) + (1 : Int32)) ||| ((((p3.toUInt32 >>> ((8 : Int32) &&& 31).toUInt32).toInt32) &&& (3 : Int32)) <<< ((6 : Int32) &&& 31))) ||| ((((p3.toUInt32 >>> ((10 : Int32) &&& 31).toUInt32).toInt32) &&& (1 : Int32)) <<< ((5 : Int32) &&& 31)))), .unset, .unset] [(.int (1 : Int32)), (.ref b5)])) _
    refine XS.iload X17.here hx rfl (hb hby at_168) rfl ?_
    show Steps p.tables e below (T17.setTop (mkF m 170 #[.val (.int p1), .val (.int p2), .val (.int p3), .val (.long q4), .second, .val (.int (p1 &&& (7 : Int32))), .val (.ref b5), .val (.ref b13), .val (.int (fv5 (0 : Int32) (p1 &&& (7 : Int32)))), .val (.int ((p2 &&& (2147483647 : Int32)) % ((p1 &&& (7 : Int32)) - (1 : Int32)))), .val (.int (((((p3 &&& (2147483647 : Int32)) % (30 : Int32)) + (1 : Int32)) ||| ((((p3.toUInt32 >>> ((8 : Int32) &&& 31).toUInt32).toInt32) &&& (3 : Int32)) <<< ((6 : Int32) &&& 31))) ||| ((((p3.toUInt32 >>> ((10 : Int32) &&& 31).toUInt32).toInt32) &&& (1 : Int32)) <<< ((5 : Int32) &&& 31)))), .unset, .unset] [(.int ((p2 &&& (2147483647 : Int32)) % ((p1 &&& (7 : Int32)) - (1 : Int32)))), (.int (1 : Int32)), (.ref b5)])) _
    refine XS.i2b X17.here hx rfl (hb hby at_170) rfl ?_
    show Steps p.tables e below (T17.setTop (mkF m 171 #[.val (.int p1), .val (.int p2), .val (.int p3), .val (.long q4), .second, .val (.int (p1 &&& (7 : Int32))), .val (.ref b5), .val (.ref b13), .val (.int (fv5 (0 : Int32) (p1 &&& (7 : Int32)))), .val (.int ((p2 &&& (2147483647 : Int32)) % ((p1 &&& (7 : Int32)) - (1 : Int32)))), .val (.int (((((p3 &&& (2147483647 : Int32)) % (30 : Int32)) + (1 : Int32)) ||| ((((p3.toUInt32 >>> ((8 : Int32) &&& 31).toUInt32).toInt32) &&& (3 : Int32)) <<< ((6 : Int32) &&& 31))) ||| ((((p3.toUInt32 >>> ((10 : Int32) &&& 31).toUInt32).toInt32) &&& (1 : Int32)) <<< ((5 : Int32) &&& 31)))), .unset, .unset] [(.int (((p2 &&& (2147483647 : Int32)) % ((p1 &&& (7 : Int32)) - (1 : Int32))).toInt8.toInt32)), (.int (1 : Int32)), (.ref b5)])) _
    refine st18 _ ?_
    show Steps p.tables e below (T18.setTop (mkF m 172 #[.val (.int p1), .val (.int p2), .val (.int p3), .val (.long q4), .second, .val (.int (p1 &&& (7 : Int32))), .val (.ref b5), .val (.ref b13), .val (.int (fv5 (0 : Int32) (p1 &&& (7 : Int32)))), .val (.int ((p2 &&& (2147483647 : Int32)) % ((p1 &&& (7 : Int32)) - (1 : Int32)))), .val (.int (((((p3 &&& (2147483647 : Int32)) % (30 : Int32)) + (1 : Int32)) ||| ((((p3.toUInt32 >>> ((8 : Int32) &&& 31).toUInt32).toInt32) &&& (3 : Int32)) <<< ((6 : Int32) &&& 31))) ||| ((((p3.toUInt32 >>> ((10 : Int32) &&& 31).toUInt32).toInt32) &&& (1 : Int32)) <<< ((5 : Int32) &&& 31)))), .unset, .unset] [])) _
    refine XS.aload X18.here hx rfl (hb hby at_172) rfl rfl ?_
    show Steps p.tables e below (T18.setTop (mkF m 174 #[.val (.int p1), .val (.int p2), .val (.int p3), .val (.long q4), .second, .val (.int (p1 &&& (7 : Int32))), .val (.ref b5), .val (.ref b13), .val (.int (fv5 (0 : Int32) (p1 &&& (7 : Int32)))), .val (.int ((p2 &&& (2147483647 : Int32)) % ((p1 &&& (7 : Int32)) - (1 : Int32)))), .val (.int (((((p3 &&& (2147483647 : Int32)) % (30 : Int32)) + (1 : Int32)) ||| ((((p3.toUInt32 >>> ((8 : Int32) &&& 31).toUInt32).toInt32) &&& (3 : Int32)) <<< ((6 : Int32) &&& 31))) ||| ((((p3.toUInt32 >>> ((10 : Int32) &&& 31).toUInt32).toInt32) &&& (1 : Int32)) <<< ((5 : Int32) &&& 31)))), .unset, .unset] [(.ref b13)])) _
    refine st19.trans ?_
    show Steps p.tables e below (T19.setTop (mkF m 177 #[.val (.int p1), .val (.int p2), .val (.int p3), .val (.long q4), .second, .val (.int (p1 &&& (7 : Int32))), .val (.ref b5), .val (.ref b13), .val (.int (fv5 (0 : Int32) (p1 &&& (7 : Int32)))), .val (.int ((p2 &&& (2147483647 : Int32)) % ((p1 &&& (7 : Int32)) - (1 : Int32)))), .val (.int (((((p3 &&& (2147483647 : Int32)) % (30 : Int32)) + (1 : Int32)) ||| ((((p3.toUInt32 >>> ((8 : Int32) &&& 31).toUInt32).toInt32) &&& (3 : Int32)) <<< ((6 : Int32) &&& 31))) ||| ((((p3.toUInt32 >>> ((10 : Int32) &&& 31).toUInt32).toInt32) &&& (1 : Int32)) <<< ((5 : Int32) &&& 31)))), .unset, .unset] [(.ref b19)])) _
    refine XS.astore X19.here hx rfl (hb hby at_177) rfl rfl (l' := #[.val (.int p1), .val (.int p2), .val (.int p3), .val (.long q4), .second, .val (.int (p1 &&& (7 : Int32))), .val (.ref b5), .val (.ref b13), .val (.int (fv5 (0 : Int32) (p1 &&& (7 : Int32)))), .val (.int ((p2 &&& (2147483647 : Int32)) % ((p1 &&& (7 : Int32)) - (1 : Int32)))), .val (.int (((((p3 &&& (2147483647 : Int32)) % (30 : Int32)) + (1 : Int32)) ||| ((((p3.toUInt32 >>> ((8 : Int32) &&& 31).toUInt32).toInt32) &&& (3 : Int32)) <<< ((6 : Int32) &&& 31))) ||| ((((p3.toUInt32 >>> ((10 : Int32) &&& 31).toUInt32).toInt32) &&& (1 : Int32)) <<< ((5 : Int32) &&& 31)))), .val (.ref b19), .unset]) rfl ?_
    show Steps p.tables e below (T19.setTop (mkF m 179 #[.val (.int p1), .val (.int p2), .val (.int p3), .val (.long q4), .second, .val (.int (p1 &&& (7 : Int32))), .val (.ref b5), .val (.ref b13), .val (.int (fv5 (0 : Int32) (p1 &&& (7 : Int32)))), .val (.int ((p2 &&& (2147483647 : Int32)) % ((p1 &&& (7 : Int32)) - (1 : Int32)))), .val (.int (((((p3 &&& (2147483647 : Int32)) % (30 : Int32)) + (1 : Int32)) ||| ((((p3.toUInt32 >>> ((8 : Int32) &&& 31).toUInt32).toInt32) &&& (3 : Int32)) <<< ((6 : Int32) &&& 31))) ||| ((((p3.toUInt32 >>> ((10 : Int32) &&& 31).toUInt32).toInt32) &&& (1 : Int32)) <<< ((5 : Int32) &&& 31)))), .val (.ref b19), .unset] [])) _
    refine XS.aload X19.here hx rfl (hb hby at_179) rfl rfl ?_
    show Steps p.tables e below (T19.setTop (mkF m 181 #[.val (.int p1), .val (.int p2), .val (.int p3), .val (.long q4), .second, .val (.int (p1 &&& (7 : Int32))), .val (.ref b5), .val (.ref b13), .val (.int (fv5 (0 : Int32) (p1 &&& (7 : Int32)))), .val (.int ((p2 &&& (2147483647 : Int32)) % ((p1 &&& (7 : Int32)) - (1 : Int32)))), .val (.int (((((p3 &&& (2147483647 : Int32)) % (30 : Int32)) + (1 : Int32)) ||| ((((p3.toUInt32 >>> ((8 : Int32) &&& 31).toUInt32).toInt32) &&& (3 : Int32)) <<< ((6 : Int32) &&& 31))) ||| ((((p3.toUInt32 >>> ((10 : Int32) &&& 31).toUInt32).toInt32) &&& (1 : Int32)) <<< ((5 : Int32) &&& 31)))), .val (.ref b19), .unset] [(.ref b13)])) _
    refine st20.trans ?_
    show Steps p.tables e below (T20.setTop (mkF m 184 #[.val (.int p1), .val (.int p2), .val (.int p3), .val (.long q4), .second, .val (.int (p1 &&& (7 : Int32))), .val (.ref b5), .val (.ref b13), .val (.int (fv5 (0 : Int32) (p1 &&& (7 : Int32)))), .val (.int ((p2 &&& (2147483647 : Int32)) % ((p1 &&& (7 : Int32)) - (1 : Int32)))), .val (.int (((((p3 &&& (2147483647 : Int32)) % (30 : Int32)) + (1 : Int32)) ||| ((((p3.toUInt32 >>> ((8 : Int32) &&& 31).toUInt32).toInt32) &&& (3 : Int32)) <<< ((6 : Int32) &&& 31))) ||| ((((p3.toUInt32 >>> ((10 : Int32) &&& 31).toUInt32).toInt32) &&& (1 : Int32)) <<< ((5 : Int32) &&& 31)))), .val (.ref b19), .unset] [(.int (fv5 (own_en yy) (p1 &&& (7 : Int32))))])) _
    refine XS.istore X20.here hx rfl (hb hby at_184) rfl (l' := #[.val (.int p1), .val (.int p2), .val (.int p3), .val (.long q4), .second, .val (.int (p1 &&& (7 : Int32))), .val (.ref b5), .val (.ref b13), .val (.int (fv5 (0 : Int32) (p1 &&& (7 : Int32)))), .val (.int ((p2 &&& (2147483647 : Int32)) % ((p1 &&& (7 : Int32)) - (1 : Int32)))), .val (.int (((((p3 &&& (2147483647 : Int32)) % (30 : Int32)) + (1 : Int32)) ||| ((((p3.toUInt32 >>> ((8 : Int32) &&& 31).toUInt32).toInt32) &&& (3 : Int32)) <<< ((6 : Int32) &&& 31))) ||| ((((p3.toUInt32 >>> ((10 : Int32) &&& 31).toUInt32).toInt32) &&& (1 : Int32)) <<< ((5 : Int32) &&& 31)))), .val (.ref b19), .val (.int (fv5 (own_en yy) (p1 &&& (7 : Int32))))]) rfl ?_
    show Steps p.tables e below (T20.setTop (mkF m 186 #[.val (.int p1), .val (.int p2), .val (.int p3), .val (.long q4), .second, .val (.int (p1 &&& (7 : Int32))), .val (.ref b5), .val (.ref b13), .val (.int (fv5 (0 : Int32) (p1 &&& (7 : Int32)))), .val (.int ((p2 &&& (2147483647 : Int32)) % ((p1 &&& (7 : Int32)) - (1 : Int32)))), .val (.int (((((p3 &&& (2147483647 : Int32)) % (30 : Int32)) + (1 : Int32)) ||| ((((p3.toUInt32 >>> ((8 : Int32) &&& 31).toUInt32).toInt32) &&& (3 : Int32)) <<< ((6 : Int32) &&& 31))) ||| ((((p3.toUInt32 >>> ((10 : Int32) &&& 31).toUInt32).toInt32) &&& (1 : Int32)) <<< ((5 : Int32) &&& 31)))), .val (.ref b19), .val (.int (fv5 (own_en yy) (p1 &&& (7 : Int32))))] [])) _
    refine XS.iload X20.here hx rfl (hb hby at_186) rfl ?_
    show Steps p.tables e below (T20.setTop (mkF m 188 #[.val (.int p1), .val (.int p2), .val (.int p3), .val (.long q4), .second, .val (.int (p1 &&& (7 : Int32))), .val (.ref b5), .val (.ref b13), .val (.int (fv5 (0 : Int32) (p1 &&& (7 : Int32)))), .val (.int ((p2 &&& (2147483647 : Int32)) % ((p1 &&& (7 : Int32)) - (1 : Int32)))), .val (.int (((((p3 &&& (2147483647 : Int32)) % (30 : Int32)) + (1 : Int32)) ||| ((((p3.toUInt32 >>> ((8 : Int32) &&& 31).toUInt32).toInt32) &&& (3 : Int32)) <<< ((6 : Int32) &&& 31))) ||| ((((p3.toUInt32 >>> ((10 : Int32) &&& 31).toUInt32).toInt32) &&& (1 : Int32)) <<< ((5 : Int32) &&& 31)))), .val (.ref b19), .val (.int (fv5 (own_en yy) (p1 &&& (7 : Int32))))] [(.int (fv5 (own_en yy) (p1 &&& (7 : Int32))))])) _
    refine XS.iconst X20.here hx rfl (hb hby at_188) ?_
    show Steps p.tables e below (T20.setTop (mkF m 189 #[.val (.int p1), .val (.int p2), .val (.int p3), .val (.long q4), .second, .val (.int (p1 &&& (7 : Int32))), .val (.ref b5), .val (.ref b13), .val (.int (fv5 (0 : Int32) (p1 &&& (7 : Int32)))), .val (.int ((p2 &&& (2147483647 : Int32)) % ((p1 &&& (7 : Int32)) - (1 : Int32)))), .val (.int (((((p3 &&& (2147483647 : Int32)) % (30 : Int32)) + (1 : Int32)) ||| ((((p3.toUInt32 >>> ((8 : Int32) &&& 31).toUInt32).toInt32) &&& (3 : Int32)) <<< ((6 : Int32) &&& 31))) ||| ((((p3.toUInt32 >>> ((10 : Int32) &&& 31).toUInt32).toInt32) &&& (1 : Int32)) <<< ((5 : Int32) &&& 31)))), .val (.ref b19), .val (.int (fv5 (own_en yy) (p1 &&& (7 : Int32))))] [(.int (2 : Int32)), (.int (fv5 (own_en yy) (p1 &&& (7 : Int32))))])) _
    refine XS.iload X20.here hx rfl (hb hby at_189) rfl ?_
    show Steps p.tables e below (T20.setTop (mkF m 191 #[.val (.int p1), .val (.int p2), .val (.int p3), .val (.long q4), .second, .val (.int (p1 &&& (7 : Int32))), .val (.ref b5), .val (.ref b13), .val (.int (fv5 (0 : Int32) (p1 &&& (7 : Int32)))), .val (.int ((p2 &&& (2147483647 : Int32)) % ((p1 &&& (7 : Int32)) - (1 : Int32)))), .val (.int (((((p3 &&& (2147483647 : Int32)) % (30 : Int32)) + (1 : Int32)) ||| ((((p3.toUInt32 >>> ((8 : Int32) &&& 31).toUInt32).toInt32) &&& (3 : Int32)) <<< ((6 : Int32) &&& 31))) ||| ((((p3.toUInt32 >>> ((10 : Int32) &&& 31).toUInt32).toInt32) &&& (1 : Int32)) <<< ((5 : Int32) &&& 31)))), .val (.ref b19), .val (.int (fv5 (own_en yy) (p1 &&& (7 : Int32))))] [(.int ((p2 &&& (2147483647 : Int32)) % ((p1 &&& (7 : Int32)) - (1 : Int32)))), (.int (2 : Int32)), (.int (fv5 (own_en yy) (p1 &&& (7 : Int32))))])) _
    refine XS.iadd X20.here hx rfl (hb hby at_191) rfl ?_
    show Steps p.tables e below (T20.setTop (mkF m 192 #[.val (.int p1), .val (.int p2), .val (.int p3), .val (.long q4), .second, .val (.int (p1 &&& (7 : Int32))), .val (.ref b5), .val (.ref b13), .val (.int (fv5 (0 : Int32) (p1 &&& (7 : Int32)))), .val (.int ((p2 &&& (2147483647 : Int32)) % ((p1 &&& (7 : Int32)) - (1 : Int32)))), .val (.int (((((p3 &&& (2147483647 : Int32)) % (30 : Int32)) + (1 : Int32)) ||| ((((p3.toUInt32 >>> ((8 : Int32) &&& 31).toUInt32).toInt32) &&& (3 : Int32)) <<< ((6 : Int32) &&& 31))) ||| ((((p3.toUInt32 >>> ((10 : Int32) &&& 31).toUInt32).toInt32) &&& (1 : Int32)) <<< ((5 : Int32) &&& 31)))), .val (.ref b19), .val (.int (fv5 (own_en yy) (p1 &&& (7 : Int32))))] [(.int ((2 : Int32) + ((p2 &&& (2147483647 : Int32)) % ((p1 &&& (7 : Int32)) - (1 : Int32))))), (.int (fv5 (own_en yy) (p1 &&& (7 : Int32))))])) _
    refine XS.iload X20.here hx rfl (hb hby at_192) rfl ?_
    show Steps p.tables e below (T20.setTop (mkF m 194 #[.val (.int p1), .val (.int p2), .val (.int p3), .val (.long q4), .second, .val (.int (p1 &&& (7 : Int32))), .val (.ref b5), .val (.ref b13), .val (.int (fv5 (0 : Int32) (p1 &&& (7 : Int32)))), .val (.int ((p2 &&& (2147483647 : Int32)) % ((p1 &&& (7 : Int32)) - (1 : Int32)))), .val (.int (((((p3 &&& (2147483647 : Int32)) % (30 : Int32)) + (1 : Int32)) ||| ((((p3.toUInt32 >>> ((8 : Int32) &&& 31).toUInt32).toInt32) &&& (3 : Int32)) <<< ((6 : Int32) &&& 31))) ||| ((((p3.toUInt32 >>> ((10 : Int32) &&& 31).toUInt32).toInt32) &&& (1 : Int32)) <<< ((5 : Int32) &&& 31)))), .val (.ref b19), .val (.int (fv5 (own_en yy) (p1 &&& (7 : Int32))))] [(.int (p1 &&& (7 : Int32))), (.int ((2 : Int32) + ((p2 &&& (2147483647 : Int32)) % ((p1 &&& (7 : Int32)) - (1 : Int32))))), (.int (fv5 (own_en yy) (p1 &&& (7 : Int32))))])) _
    refine XS.icmpNo X20.here hx rfl (hb hby at_194) rfl (tlt hc194).2.1 ?_
    show Steps p.tables e below (T20.setTop (mkF m 197 #[.val (.int p1), .val (.int p2), .val (.int p3), .val (.long q4), .second, .val (.int (p1 &&& (7 : Int32))), .val (.ref b5), .val (.ref b13), .val (.int (fv5 (0 : Int32) (p1 &&& (7 : Int32)))), .val (.int ((p2 &&& (2147483647 : Int32)) % ((p1 &&& (7 : Int32)) - (1 : Int32)))), .val (.int (((((p3 &&& (2147483647 : Int32)) % (30 : Int32)) + (1 : Int32)) ||| ((((p3.toUInt32 >>> ((8 : Int32) &&& 31).toUInt32).toInt32) &&& (3 : Int32)) <<< ((6 : Int32) &&& 31))) ||| ((((p3.toUInt32 >>> ((10 : Int32) &&& 31).toUInt32).toInt32) &&& (1 : Int32)) <<< ((5 : Int32) &&& 31)))), .val (.ref b19), .val (.int (fv5 (own_en yy) (p1 &&& (7 : Int32))))] [(.int (fv5 (own_en yy) (p1 &&& (7 : Int32))))])) _
    refine XS.iconst X20.here hx rfl (hb hby at_197) ?_
    show Steps p.tables e below (T20.setTop (mkF m 198 #[.val (.int p1), .val (.int p2), .val (.int p3), .val (.long q4), .second, .val (.int (p1 &&& (7 : Int32))), .val (.ref b5), .val (.ref b13), .val (.int (fv5 (0 : Int32) (p1 &&& (7 : Int32)))), .val (.int ((p2 &&& (2147483647 : Int32)) % ((p1 &&& (7 : Int32)) - (1 : Int32)))), .val (.int (((((p3 &&& (2147483647 : Int32)) % (30 : Int32)) + (1 : Int32)) ||| ((((p3.toUInt32 >>> ((8 : Int32) &&& 31).toUInt32).toInt32) &&& (3 : Int32)) <<< ((6 : Int32) &&& 31))) ||| ((((p3.toUInt32 >>> ((10 : Int32) &&& 31).toUInt32).toInt32) &&& (1 : Int32)) <<< ((5 : Int32) &&& 31)))), .val (.ref b19), .val (.int (fv5 (own_en yy) (p1 &&& (7 : Int32))))] [(.int (1 : Int32)), (.int (fv5 (own_en yy) (p1 &&& (7 : Int32))))])) _
    refine XS.goto X20.here hx rfl (pc0 := 198) (pc' := 202) rfl (hb hby at_198) (by decide) (by decide) ?_
    show Steps p.tables e below (T20.setTop (mkF m 202 #[.val (.int p1), .val (.int p2), .val (.int p3), .val (.long q4), .second, .val (.int (p1 &&& (7 : Int32))), .val (.ref b5), .val (.ref b13), .val (.int (fv5 (0 : Int32) (p1 &&& (7 : Int32)))), .val (.int ((p2 &&& (2147483647 : Int32)) % ((p1 &&& (7 : Int32)) - (1 : Int32)))), .val (.int (((((p3 &&& (2147483647 : Int32)) % (30 : Int32)) + (1 : Int32)) ||| ((((p3.toUInt32 >>> ((8 : Int32) &&& 31).toUInt32).toInt32) &&& (3 : Int32)) <<< ((6 : Int32) &&& 31))) ||| ((((p3.toUInt32 >>> ((10 : Int32) &&& 31).toUInt32).toInt32) &&& (1 : Int32)) <<< ((5 : Int32) &&& 31)))), .val (.ref b19), .val (.int (fv5 (own_en yy) (p1 &&& (7 : Int32))))] [(.int (1 : Int32)), (.int (fv5 (own_en yy) (p1 &&& (7 : Int32))))])) _
    refine XS.icmpNo X20.here hx rfl (hb hby at_202) rfl (teq hc202).2 ?_
    show Steps p.tables e below (T20.setTop (mkF m 205 #[.val (.int p1), .val (.int p2), .val (.int p3), .val (.long q4), .second, .val (.int (p1 &&& (7 : Int32))), .val (.ref b5), .val (.ref b13), .val (.int (fv5 (0 : Int32) (p1 &&& (7 : Int32)))), .val (.int ((p2 &&& (2147483647 : Int32)) % ((p1 &&& (7 : Int32)) - (1 : Int32)))), .val (.int (((((p3 &&& (2147483647 : Int32)) % (30 : Int32)) + (1 : Int32)) ||| ((((p3.toUInt32 >>> ((8 : Int32) &&& 31).toUInt32).toInt32) &&& (3 : Int32)) <<< ((6 : Int32) &&& 31))) ||| ((((p3.toUInt32 >>> ((10 : Int32) &&& 31).toUInt32).toInt32) &&& (1 : Int32)) <<< ((5 : Int32) &&& 31)))), .val (.ref b19), .val (.int (fv5 (own_en yy) (p1 &&& (7 : Int32))))] [])) _
    refine XS.aload X20.here hx rfl (hb hby at_205) rfl rfl ?_
    show Steps p.tables e below (T20.setTop (mkF m 207 #[.val (.int p1), .val (.int p2), .val (.int p3), .val (.long q4), .second, .val (.int (p1 &&& (7 : Int32))), .val (.ref b5), .val (.ref b13), .val (.int (fv5 (0 : Int32) (p1 &&& (7 : Int32)))), .val (.int ((p2 &&& (2147483647 : Int32)) % ((p1 &&& (7 : Int32)) - (1 : Int32)))), .val (.int (((((p3 &&& (2147483647 : Int32)) % (30 : Int32)) + (1 : Int32)) ||| ((((p3.toUInt32 >>> ((8 : Int32) &&& 31).toUInt32).toInt32) &&& (3 : Int32)) <<< ((6 : Int32) &&& 31))) ||| ((((p3.toUInt32 >>> ((10 : Int32) &&& 31).toUInt32).toInt32) &&& (1 : Int32)) <<< ((5 : Int32) &&& 31)))), .val (.ref b19), .val (.int (fv5 (own_en yy) (p1 &&& (7 : Int32))))] [(.ref b19)])) _
    refine st21.trans ?_
    show Steps p.tables e below (T21.setTop (mkF m 210 #[.val (.int p1), .val (.int p2), .val (.int p3), .val (.long q4), .second, .val (.int (p1 &&& (7 : Int32))), .val (.ref b5), .val (.ref b13), .val (.int (fv5 (0 : Int32) (p1 &&& (7 : Int32)))), .val (.int ((p2 &&& (2147483647 : Int32)) % ((p1 &&& (7 : Int32)) - (1 : Int32)))), .val (.int (((((p3 &&& (2147483647 : Int32)) % (30 : Int32)) + (1 : Int32)) ||| ((((p3.toUInt32 >>> ((8 : Int32) &&& 31).toUInt32).toInt32) &&& (3 : Int32)) <<< ((6 : Int32) &&& 31))) ||| ((((p3.toUInt32 >>> ((10 : Int32) &&& 31).toUInt32).toInt32) &&& (1 : Int32)) <<< ((5 : Int32) &&& 31)))), .val (.ref b19), .val (.int (fv5 (own_en yy) (p1 &&& (7 : Int32))))] [(.int (own_en yy))])) _
    refine XS.iconst X21.here hx rfl (hb hby at_210) ?_
    show Steps p.tables e below (T21.setTop (mkF m 211 #[.val (.int p1), .val (.int p2), .val (.int p3), .val (.long q4), .second, .val (.int (p1 &&& (7 : Int32))), .val (.ref b5), .val (.ref b13), .val (.int (fv5 (0 : Int32) (p1 &&& (7 : Int32)))), .val (.int ((p2 &&& (2147483647 : Int32)) % ((p1 &&& (7 : Int32)) - (1 : Int32)))), .val (.int (((((p3 &&& (2147483647 : Int32)) % (30 : Int32)) + (1 : Int32)) ||| ((((p3.toUInt32 >>> ((8 : Int32) &&& 31).toUInt32).toInt32) &&& (3 : Int32)) <<< ((6 : Int32) &&& 31))) ||| ((((p3.toUInt32 >>> ((10 : Int32) &&& 31).toUInt32).toInt32) &&& (1 : Int32)) <<< ((5 : Int32) &&& 31)))), .val (.ref b19), .val (.int (fv5 (own_en yy) (p1 &&& (7 : Int32))))] [(.int (2 : Int32)), (.int (own_en yy))])) _
    refine XS.iload X21.here hx rfl (hb hby at_211) rfl ?_
    show Steps p.tables e below (T21.setTop (mkF m 213 #[.val (.int p1), .val (.int p2), .val (.int p3), .val (.long q4), .second, .val (.int (p1 &&& (7 : Int32))), .val (.ref b5), .val (.ref b13), .val (.int (fv5 (0 : Int32) (p1 &&& (7 : Int32)))), .val (.int ((p2 &&& (2147483647 : Int32)) % ((p1 &&& (7 : Int32)) - (1 : Int32)))), .val (.int (((((p3 &&& (2147483647 : Int32)) % (30 : Int32)) + (1 : Int32)) ||| ((((p3.toUInt32 >>> ((8 : Int32) &&& 31).toUInt32).toInt32) &&& (3 : Int32)) <<< ((6 : Int32) &&& 31))) ||| ((((p3.toUInt32 >>> ((10 : Int32) &&& 31).toUInt32).toInt32) &&& (1 : Int32)) <<< ((5 : Int32) &&& 31)))), .val (.ref b19), .val (.int (fv5 (own_en yy) (p1 &&& (7 : Int32))))] [(.int ((p2 &&& (2147483647 : Int32)) % ((p1 &&& (7 : Int32)) - (1 : Int32)))), (.int (2 : Int32)), (.int (own_en yy))])) _
    refine XS.iadd X21.here hx rfl (hb hby at_213) rfl ?_
    show Steps p.tables e below (T21.setTop (mkF m 214 #[.val (.int p1), .val (.int p2), .val (.int p3), .val (.long q4), .second, .val (.int (p1 &&& (7 : Int32))), .val (.ref b5), .val (.ref b13), .val (.int (fv5 (0 : Int32) (p1 &&& (7 : Int32)))), .val (.int ((p2 &&& (2147483647 : Int32)) % ((p1 &&& (7 : Int32)) - (1 : Int32)))), .val (.int (((((p3 &&& (2147483647 : Int32)) % (30 : Int32)) + (1 : Int32)) ||| ((((p3.toUInt32 >>> ((8 : Int32) &&& 31).toUInt32).toInt32) &&& (3 : Int32)) <<< ((6 : Int32) &&& 31))) ||| ((((p3.toUInt32 >>> ((10 : Int32) &&& 31).toUInt32).toInt32) &&& (1 : Int32)) <<< ((5 : Int32) &&& 31)))), .val (.ref b19), .val (.int (fv5 (own_en yy) (p1 &&& (7 : Int32))))] [(.int ((2 : Int32) + ((p2 &&& (2147483647 : Int32)) % ((p1 &&& (7 : Int32)) - (1 : Int32))))), (.int (own_en yy))])) _
    refine XS.icmpNo X21.here hx rfl (hb hby at_214) rfl (teq hc214).2 ?_
    show Steps p.tables e below (T21.setTop (mkF m 217 #[.val (.int p1), .val (.int p2), .val (.int p3), .val (.long q4), .second, .val (.int (p1 &&& (7 : Int32))), .val (.ref b5), .val (.ref b13), .val (.int (fv5 (0 : Int32) (p1 &&& (7 : Int32)))), .val (.int ((p2 &&& (2147483647 : Int32)) % ((p1 &&& (7 : Int32)) - (1 : Int32)))), .val (.int (((((p3 &&& (2147483647 : Int32)) % (30 : Int32)) + (1 : Int32)) ||| ((((p3.toUInt32 >>> ((8 : Int32) &&& 31).toUInt32).toInt32) &&& (3 : Int32)) <<< ((6 : Int32) &&& 31))) ||| ((((p3.toUInt32 >>> ((10 : Int32) &&& 31).toUInt32).toInt32) &&& (1 : Int32)) <<< ((5 : Int32) &&& 31)))), .val (.ref b19), .val (.int (fv5 (own_en yy) (p1 &&& (7 : Int32))))] [])) _
    refine XS.aload X21.here hx rfl (hb hby at_217) rfl rfl ?_
    show Steps p.tables e below (T21.setTop (mkF m 219 #[.val (.int p1), .val (.int p2), .val (.int p3), .val (.long q4), .second, .val (.int (p1 &&& (7 : Int32))), .val (.ref b5), .val (.ref b13), .val (.int (fv5 (0 : Int32) (p1 &&& (7 : Int32)))), .val (.int ((p2 &&& (2147483647 : Int32)) % ((p1 &&& (7 : Int32)) - (1 : Int32)))), .val (.int (((((p3 &&& (2147483647 : Int32)) % (30 : Int32)) + (1 : Int32)) ||| ((((p3.toUInt32 >>> ((8 : Int32) &&& 31).toUInt32).toInt32) &&& (3 : Int32)) <<< ((6 : Int32) &&& 31))) ||| ((((p3.toUInt32 >>> ((10 : Int32) &&& 31).toUInt32).toInt32) &&& (1 : Int32)) <<< ((5 : Int32) &&& 31)))), .val (.ref b19), .val (.int (fv5 (own_en yy) (p1 &&& (7 : Int32))))] [(.ref b13)])) _
    refine st22.trans ?_
    show Steps p.tables e below (T22.setTop (mkF m 222 #[.val (.int p1), .val (.int p2), .val (.int p3), .val (.long q4), .second, .val (.int (p1 &&& (7 : Int32))), .val (.ref b5), .val (.ref b13), .val (.int (fv5 (0 : Int32) (p1 &&& (7 : Int32)))), .val (.int ((p2 &&& (2147483647 : Int32)) % ((p1 &&& (7 : Int32)) - (1 : Int32)))), .val (.int (((((p3 &&& (2147483647 : Int32)) % (30 : Int32)) + (1 : Int32)) ||| ((((p3.toUInt32 >>> ((8 : Int32) &&& 31).toUInt32).toInt32) &&& (3 : Int32)) <<< ((6 : Int32) &&& 31))) ||| ((((p3.toUInt32 >>> ((10 : Int32) &&& 31).toUInt32).toInt32) &&& (1 : Int32)) <<< ((5 : Int32) &&& 31)))), .val (.ref b19), .val (.int (fv5 (own_en yy) (p1 &&& (7 : Int32))))] [(.int (fv5 (own_en yy) (p1 &&& (7 : Int32))))])) _
    refine XS.iload X22.here hx rfl (hb hby at_222) rfl ?_
    show Steps p.tables e below (T22.setTop (mkF m 224 #[.val (.int p1), .val (.int p2), .val (.int p3), .val (.long q4), .second, .val (.int (p1 &&& (7 : Int32))), .val (.ref b5), .val (.ref b13), .val (.int (fv5 (0 : Int32) (p1 &&& (7 : Int32)))), .val (.int ((p2 &&& (2147483647 : Int32)) % ((p1 &&& (7 : Int32)) - (1 : Int32)))), .val (.int (((((p3 &&& (2147483647 : Int32)) % (30 : Int32)) + (1 : Int32)) ||| ((((p3.toUInt32 >>> ((8 : Int32) &&& 31).toUInt32).toInt32) &&& (3 : Int32)) <<< ((6 : Int32) &&& 31))) ||| ((((p3.toUInt32 >>> ((10 : Int32) &&& 31).toUInt32).toInt32) &&& (1 : Int32)) <<< ((5 : Int32) &&& 31)))), .val (.ref b19), .val (.int (fv5 (own_en yy) (p1 &&& (7 : Int32))))] [(.int (fv5 (own_en yy) (p1 &&& (7 : Int32)))), (.int (fv5 (own_en yy) (p1 &&& (7 : Int32))))])) _
    refine XS.icmpNo X22.here hx rfl (hb hby at_224) rfl (teq (rfl : (fv5 (own_en yy) (p1 &&& (7 : Int32))) = (fv5 (own_en yy) (p1 &&& (7 : Int32))))).2 ?_
    show Steps p.tables e below (T22.setTop (mkF m 227 #[.val (.int p1), .val (.int p2), .val (.int p3), .val (.long q4), .second, .val (.int (p1 &&& (7 : Int32))), .val (.ref b5), .val (.ref b13), .val (.int (fv5 (0 : Int32) (p1 &&& (7 : Int32)))), .val (.int ((p2 &&& (2147483647 : Int32)) % ((p1 &&& (7 : Int32)) - (1 : Int32)))), .val (.int (((((p3 &&& (2147483647 : Int32)) % (30 : Int32)) + (1 : Int32)) ||| ((((p3.toUInt32 >>> ((8 : Int32) &&& 31).toUInt32).toInt32) &&& (3 : Int32)) <<< ((6 : Int32) &&& 31))) ||| ((((p3.toUInt32 >>> ((10 : Int32) &&& 31).toUInt32).toInt32) &&& (1 : Int32)) <<< ((5 : Int32) &&& 31)))), .val (.ref b19), .val (.int (fv5 (own_en yy) (p1 &&& (7 : Int32))))] [])) _
    refine XS.iconst X22.here hx rfl (hb hby at_227) ?_
    show Steps p.tables e below (T22.setTop (mkF m 228 #[.val (.int p1), .val (.int p2), .val (.int p3), .val (.long q4), .second, .val (.int (p1 &&& (7 : Int32))), .val (.ref b5), .val (.ref b13), .val (.int (fv5 (0 : Int32) (p1 &&& (7 : Int32)))), .val (.int ((p2 &&& (2147483647 : Int32)) % ((p1 &&& (7 : Int32)) - (1 : Int32)))), .val (.int (((((p3 &&& (2147483647 : Int32)) % (30 : Int32)) + (1 : Int32)) ||| ((((p3.toUInt32 >>> ((8 : Int32) &&& 31).toUInt32).toInt32) &&& (3 : Int32)) <<< ((6 : Int32) &&& 31))) ||| ((((p3.toUInt32 >>> ((10 : Int32) &&& 31).toUInt32).toInt32) &&& (1 : Int32)) <<< ((5 : Int32) &&& 31)))), .val (.ref b19), .val (.int (fv5 (own_en yy) (p1 &&& (7 : Int32))))] [(.int (1 : Int32))])) _
    refine XS.goto X22.here hx rfl (pc0 := 228) (pc' := 232) rfl (hb hby at_228) (by decide) (by decide) ?_
    show Steps p.tables e below (T22.setTop (mkF m 232 #[.val (.int p1), .val (.int p2), .val (.int p3), .val (.long q4), .second, .val (.int (p1 &&& (7 : Int32))), .val (.ref b5), .val (.ref b13), .val (.int (fv5 (0 : Int32) (p1 &&& (7 : Int32)))), .val (.int ((p2 &&& (2147483647 : Int32)) % ((p1 &&& (7 : Int32)) - (1 : Int32)))), .val (.int (((((p3 &&& (2147483647 : Int32)) % (30 : Int32)) + (1 : Int32)) ||| ((((p3.toUInt32 >>> ((8 : Int32) &&& 31).toUInt32).toInt32) &&& (3 : Int32)) <<< ((6 : Int32) &&& 31))) ||| ((((p3.toUInt32 >>> ((10 : Int32) &&& 31).toUInt32).toInt32) &&& (1 : Int32)) <<< ((5 : Int32) &&& 31)))), .val (.ref b19), .val (.int (fv5 (own_en yy) (p1 &&& (7 : Int32))))] [(.int (1 : Int32))])) _
    exact retN X22 hx (t := .boolean) Bd.returns (by simp) (hb hby at_232) hr
  · show QF n0 _ T22.heap _
    rw [eh22]
    exact ⟨rfl, N22, trivial⟩
theorem own_id_all : ∀ (a : Fin 30) (b : Fin 4) (c : Fin 2), ¬ (((nar .byte (((((Int32.ofNat a.val) + (1 : Int32)) ||| ((Int32.ofNat b.val) <<< ((6 : Int32) &&& 31))) ||| ((Int32.ofNat c.val) <<< ((5 : Int32) &&& 31))).toInt8.toInt32) &&& (255 : Int32)) &&& (31 : Int32)) = (31 : Int32)) ∧ ¬ (((nar .byte (((((Int32.ofNat a.val) + (1 : Int32)) ||| ((Int32.ofNat b.val) <<< ((6 : Int32) &&& 31))) ||| ((Int32.ofNat c.val) <<< ((5 : Int32) &&& 31))).toInt8.toInt32) &&& (255 : Int32)) &&& (-33 : Int32)) = (0 : Int32)) := by decide +kernel
theorem own_nat {x : Int32} (h : 0 ≤ x.toInt) : x = Int32.ofNat x.toInt.toNat := by
  apply Int32.toInt_inj.mp
  have := x.toInt_lt
  rw [Int32.toInt_ofNat_of_lt (by omega)]; omega
theorem own_max31 (x : Int32) : 0 ≤ (x &&& (2147483647 : Int32)).toInt := by
  rw [c_mask x (2147483647 : Int32) 31 (by decide) (by decide)]; exact Int.emod_nonneg _ (by decide)
theorem own_id (p3 : Int32) : ¬ (((nar .byte ((((((p3 &&& (2147483647 : Int32)) % (30 : Int32)) + (1 : Int32)) ||| ((((p3.toUInt32 >>> ((8 : Int32) &&& 31).toUInt32).toInt32) &&& (3 : Int32)) <<< ((6 : Int32) &&& 31))) ||| ((((p3.toUInt32 >>> ((10 : Int32) &&& 31).toUInt32).toInt32) &&& (1 : Int32)) <<< ((5 : Int32) &&& 31))).toInt8.toInt32) &&& (255 : Int32)) &&& (31 : Int32)) = (31 : Int32)) ∧ ¬ (((nar .byte ((((((p3 &&& (2147483647 : Int32)) % (30 : Int32)) + (1 : Int32)) ||| ((((p3.toUInt32 >>> ((8 : Int32) &&& 31).toUInt32).toInt32) &&& (3 : Int32)) <<< ((6 : Int32) &&& 31))) ||| ((((p3.toUInt32 >>> ((10 : Int32) &&& 31).toUInt32).toInt32) &&& (1 : Int32)) <<< ((5 : Int32) &&& 31))).toInt8.toInt32) &&& (255 : Int32)) &&& (-33 : Int32)) = (0 : Int32)) := by
  have ha : ((p3 &&& (2147483647 : Int32)) % (30 : Int32)).toInt = (p3 &&& (2147483647 : Int32)).toInt % 30 := (c_irem (p3 &&& (2147483647 : Int32)) (30 : Int32) 30 rfl).1 (own_max31 p3)
  have hb := c_and ((p3.toUInt32 >>> ((8 : Int32) &&& 31).toUInt32).toInt32) (3 : Int32) (by decide)
  have hc := c_and ((p3.toUInt32 >>> ((10 : Int32) &&& 31).toUInt32).toInt32) (1 : Int32) (by decide)
  have e3 : (3 : Int32).toInt = 3 := rfl
  have e1 : (1 : Int32).toInt = 1 := rfl
  have h0 := own_max31 p3
  have na := own_nat (x := ((p3 &&& (2147483647 : Int32)) % (30 : Int32))) (by omega)
  have nb := own_nat hb.1
  have nc := own_nat hc.1
  have q := own_id_all ⟨((p3 &&& (2147483647 : Int32)) % (30 : Int32)).toInt.toNat, by omega⟩ ⟨(((p3.toUInt32 >>> ((8 : Int32) &&& 31).toUInt32).toInt32) &&& (3 : Int32)).toInt.toNat, by omega⟩ ⟨(((p3.toUInt32 >>> ((10 : Int32) &&& 31).toUInt32).toInt32) &&& (1 : Int32)).toInt.toNat, by omega⟩
  dsimp only at q
  rw [← na, ← nb, ← nc] at q
  exact q
theorem own_byte {k : Int32} (h0 : 0 ≤ k.toInt) (h1 : k.toInt < 128) : nar .byte (k.toInt8.toInt32) = k := by
  apply Int32.toInt_inj.mp
  have q1 := c_i2b k
  have q2 := c_i2b (k.toInt8.toInt32)
  show ((k.toInt8.toInt32).toInt8.toInt32).toInt = k.toInt
  omega
theorem own_k (n p2 : Int32) (hn : 2 ≤ n.toInt) (hn7 : n.toInt ≤ 7) : 0 ≤ ((p2 &&& (2147483647 : Int32)) % (n - (1 : Int32))).toInt ∧ ((p2 &&& (2147483647 : Int32)) % (n - (1 : Int32))).toInt < n.toInt - 1 ∧ (n - (1 : Int32)).toInt = n.toInt - 1 := by
  have e1 : (1 : Int32).toInt = 1 := rfl
  have hs := c_isub n (1 : Int32)
  have hr := rng32 (n - (1 : Int32))
  have hs' : (n - (1 : Int32)).toInt = n.toInt - 1 := by omega
  have q := (c_iremV (p2 &&& (2147483647 : Int32)) (n - (1 : Int32))).1 (own_max31 p2) (by omega)
  omega
theorem own_m255 {k : Int32} (h0 : 0 ≤ k.toInt) (h1 : k.toInt < 128) : (k &&& (255 : Int32)) = k := by
  apply Int32.toInt_inj.mp
  rw [c_mask k (255 : Int32) 8 (by decide) (by decide)]
  have e : ((2 ^ 8 : Nat) : Int) = 256 := rfl
  rw [e]; omega
theorem own_en_eq {k : Int32} (h0 : 0 ≤ k.toInt) (h1 : k.toInt < 128) : own_en k = (2 : Int32) + k ∧ (own_en k).toInt = 2 + k.toInt := by
  have e2 : (2 : Int32).toInt = 2 := rfl
  have e : own_en k = (2 : Int32) + k := by
    unfold own_en
    rw [own_m255 h0 h1]
    have q : k.toInt64.toInt32 = k := by
      apply Int32.toInt_inj.mp
      have a := c_l2i k.toInt64
      have b := c_i2l k
      have c := rng32 k
      have d := rng32 k.toInt64.toInt32
      omega
    rw [q]; rfl
  refine ⟨e, ?_⟩
  rw [e]
  have q := c_iadd (2 : Int32) k
  have r := rng32 ((2 : Int32) + k)
  omega
set_option maxRecDepth 65536 in
set_option maxHeartbeats 40000000 in
theorem rm0 (l : Launch) (Z : State) (a0 : Array Value) (hw : ∀ d ∈ tables_1, d.before a0 Z = true) (ws : List Jvm.Cond) (p1 : Int32) (p2 : Int32) (p3 : Int32) (q4 : Int64) (h0 : Heap) (n0 : Nat) (Z0 : n0 ≤ h0.size) :
    MetFree l x (head1 (Jvm.Cond.code x code maxLocals ret :: ws) room_1) (fun a U => a = #[(.int p1), (.int p2), (.int p3), (.long q4)] ∧ Z.Warmed39 U.vm ∧ U.heap = h0) (fun _ _ _ _ _ => True) (fun _ U o U' => ∃ v L, o = .returned v ∧ QF n0 v U'.heap L ∧ FrameEnd U o U' L room_1.cells room_1.slots) := by
  have e0 : (0 : Int32).toInt = 0 := rfl
  have e1 : (1 : Int32).toInt = 1 := rfl
  have e2 : (2 : Int32).toInt = 2 := rfl
  have e7 : (7 : Int32).toInt = 7 := rfl
  have hb := c_and p1 (7 : Int32) (by decide)
  rw [e7] at hb
  have hng : ¬ (p1 &&& (7 : Int32)) < 0 := by rw [Int32.lt_iff_toInt_lt]; omega
  have hcap : (p1 &&& (7 : Int32)).toNatClampNeg ≤ 7 := by
    have q := nat_of hng
    omega
  have f5 : ∀ x y : Int32, x.toInt < y.toInt → fv5 x y = 1 := fun x y h => by unfold fv5; rw [if_pos (Int32.lt_iff_toInt_lt.mpr h)]
  have f0 : ∀ x y : Int32, ¬ x.toInt < y.toInt → fv5 x y = 0 := fun x y h => by unfold fv5; rw [if_neg (fun q => h (Int32.lt_iff_toInt_lt.mp q))]
  by_cases h2 : (p1 &&& (7 : Int32)).toInt < 2
  · have h112 : (p1 &&& (7 : Int32)) < (2 : Int32) := by rw [Int32.lt_iff_toInt_lt]; omega
    by_cases h1 : (p1 &&& (7 : Int32)).toInt < 1
    · have h84 : ¬ ((0 : Int32) < (p1 &&& (7 : Int32))) := by rw [Int32.lt_iff_toInt_lt]; omega
      exact rm0_tttf l Z a0 hw ws p1 p2 p3 q4 h0 n0 Z0 hng hcap h84 (f0 _ _ (by omega)) h112
    · have h84 : (0 : Int32) < (p1 &&& (7 : Int32)) := by rw [Int32.lt_iff_toInt_lt]; omega
      exact rm0_fttf l Z a0 hw ws p1 p2 p3 q4 h0 n0 Z0 hng hcap h84 (f5 _ _ (by omega)) h112
  · have h112 : ¬ ((p1 &&& (7 : Int32)) < (2 : Int32)) := by rw [Int32.lt_iff_toInt_lt]; omega
    have h84 : (0 : Int32) < (p1 &&& (7 : Int32)) := by rw [Int32.lt_iff_toInt_lt]; omega
    have h1n : (1 : Int32) < (p1 &&& (7 : Int32)) := by rw [Int32.lt_iff_toInt_lt]; omega
    obtain ⟨k0, k1, k2⟩ := own_k (p1 &&& (7 : Int32)) p2 (by omega) (by omega)
    have hid := own_id p3
    have hyb := own_byte k0 (by omega : ((p2 &&& (2147483647 : Int32)) % ((p1 &&& (7 : Int32)) - (1 : Int32))).toInt < 128)
    have hm := own_m255 k0 (by omega : ((p2 &&& (2147483647 : Int32)) % ((p1 &&& (7 : Int32)) - (1 : Int32))).toInt < 128)
    obtain ⟨n1, n2⟩ := own_en_eq k0 (by omega : ((p2 &&& (2147483647 : Int32)) % ((p1 &&& (7 : Int32)) - (1 : Int32))).toInt < 128)
    have hz : ¬ (((p1 &&& (7 : Int32)) - (1 : Int32)) = (0 : Int32)) := fun q => by rw [q] at k2; omega
    have hln : (((p2 &&& (2147483647 : Int32)) % ((p1 &&& (7 : Int32)) - (1 : Int32))) &&& (255 : Int32)) < (128 : Int32) := by
      rw [hm, Int32.lt_iff_toInt_lt]
      have e128 : (128 : Int32).toInt = 128 := rfl
      omega
    have hr94 : ¬ ((lcmpW ((((p2 &&& (2147483647 : Int32)) % ((p1 &&& (7 : Int32)) - (1 : Int32))) &&& (255 : Int32)).toInt64) (-1 : Int64)) = (0 : Int32)) := by
      rw [hm, lw_eq, ← Int64.toInt_inj, c_i2l]
      have em : (-1 : Int64).toInt = -1 := rfl
      omega
    have hr160 : ¬ ((0 : Int32) < (lcmpW ((((p2 &&& (2147483647 : Int32)) % ((p1 &&& (7 : Int32)) - (1 : Int32))) &&& (255 : Int32)).toInt64) (((p1 &&& (7 : Int32)) - (((0 : Int32) + (1 : Int32)) + (1 : Int32))).toInt64))) := by
      rw [hm, lw_gt, Int64.lt_iff_toInt_lt, c_i2l, c_i2l]
      have es : (((0 : Int32) + (1 : Int32)) + (1 : Int32)).toInt = 2 := by decide
      have q := c_isub (p1 &&& (7 : Int32)) (((0 : Int32) + (1 : Int32)) + (1 : Int32))
      have r := rng32 ((p1 &&& (7 : Int32)) - (((0 : Int32) + (1 : Int32)) + (1 : Int32)))
      omega
    have hr4 : ¬ ((fv5 (0 : Int32) (p1 &&& (7 : Int32))) = (0 : Int32)) := by rw [f5 _ _ (by omega)]; decide
    have ha := c_iadd (2 : Int32) ((p2 &&& (2147483647 : Int32)) % ((p1 &&& (7 : Int32)) - (1 : Int32)))
    have hr := rng32 ((2 : Int32) + ((p2 &&& (2147483647 : Int32)) % ((p1 &&& (7 : Int32)) - (1 : Int32))))
    by_cases h194 : ((2 : Int32) + ((p2 &&& (2147483647 : Int32)) % ((p1 &&& (7 : Int32)) - (1 : Int32)))) < (p1 &&& (7 : Int32))
    · have q := h194
      rw [Int32.lt_iff_toInt_lt] at q
      exact rm0_ftttffff l Z a0 hw ws p1 p2 p3 q4 _ ((p2 &&& (2147483647 : Int32)) % ((p1 &&& (7 : Int32)) - (1 : Int32))) h0 n0 Z0 hng hcap rfl hyb.symm h84 h1n hid.1 hln hr4 hid.2 hr94 hr160 h84 (f5 _ _ (by omega)) h112 hz (by decide) h194 (f5 _ _ (by omega)) n1
    · have q := h194
      rw [Int32.lt_iff_toInt_lt] at q
      exact rm0_fttttfff l Z a0 hw ws p1 p2 p3 q4 _ ((p2 &&& (2147483647 : Int32)) % ((p1 &&& (7 : Int32)) - (1 : Int32))) h0 n0 Z0 hng hcap rfl hyb.symm h84 h1n hid.1 hln hr4 hid.2 hr94 hr160 h84 (f5 _ _ (by omega)) h112 hz (by decide) h194 (f0 _ _ (by omega)) n1
-- 5. FROM THE CASE'S WORDS TO rm0, AND THE OWED THEOREMS
set_option maxRecDepth 65536 in
set_option maxHeartbeats 40000000 in
theorem comes_1 {Post : Tables → Env → Array Value → State → Outcome → State → Prop} (hpost : ∀ tb e args s v u, (limb_1_1.after args s (.returned v) u = true ∧ limb_1_2.after args s (.returned v) u = true ∧ True) → FrameEnd s (.returned v) u (Jvm.fieldLocs frame_1_writes args s ++ Jvm.arrayLocs frame_1_arrays args s ++ Jvm.staticLocs frame_1_statics s) 16 128 → Post tb e args s (.returned v) u) :
    ArmFor flags0 classFile x code maxLocals ret World_1 tables_1 room_1 Calls_1 rest_1 Pre_1 Post := by
  intro l hfl _ _ p e ha hc hk s m args below hf hA hF happ hP
  obtain ⟨hcalls, hrest, hpre⟩ := hP
  obtain ⟨-, -, -, hnamed, -, -, -, hat⟩ := (Spec.applies_iff hf).mp happ
  obtain ⟨hg, hn⟩ := and_e (Cond.before_iff.mp (show (Jvm.Cond.and given_1 narrow_1).before args s = true from hpre))
  obtain ⟨g23, g24⟩ := and_e hg
  obtain ⟨g25, g26⟩ := and_e g24
  obtain ⟨g27, g28⟩ := and_e g26
  obtain ⟨g29, g30⟩ := and_e g28
  obtain ⟨w0, w1, w2, w3, rfl⟩ : ∃ w0 w1 w2 w3 : Value, args = #[w0, w1, w2, w3] := by
    have hs : args.size = 4 := by simpa [Cond.value, given_1] using g23
    obtain ⟨L⟩ := args
    match L, hs with
    | [w0, w1, w2, w3], _ => exact ⟨w0, w1, w2, w3, rfl⟩
  have hw := fun d (hd : d ∈ tables_1) => atoms_spec (ws := Jvm.Cond.code x code maxLocals ret :: tables_1) hat d (List.mem_cons_of_mem _ hd)
  have hfit : Fit s := fun {y c} hc i hi => by
    obtain ⟨ha, rfl⟩ := Array.getElem?_eq_some_iff.mp hc
    have q := List.all_eq_true.mp ((Array.all_eq_true_iff_forall_mem.mp hF) _ (Array.getElem_mem ha)) i (List.mem_range.mpr hi)
    simpa [Array.getElem?_eq_getElem hi] using q
  obtain ⟨i0, ei0⟩ := is_v g25
  obtain rfl : w0 = (.int i0) := Option.some.inj ei0
  obtain ⟨i1, ei1⟩ := is_v g27
  obtain rfl : w1 = (.int i1) := Option.some.inj ei1
  obtain ⟨i2, ei2⟩ := is_v g29
  obtain rfl : w2 = (.int i2) := Option.some.inj ei2
  obtain ⟨i3, ei3⟩ := isL_v g30
  obtain rfl : w3 = (.long i3) := Option.some.inj ei3
  obtain ⟨n, o, h1, h2, h3, _, L, rfl, ⟨rfl, N, _⟩, hq⟩ := rm0 l s _ hw tables_1 i0 i1 i2 i3 s.heap s.heap.size (Nat.le_refl _) p e ha hc hk s m _ below hf ((Spec.applies_iff_loose hf).mp happ).1 ⟨rfl, State.Warmed39.refl s, rfl⟩ trivial
  refine ⟨n, _, h1, h2, h3, hpost _ _ _ _ _ _ ⟨Cond.after_iff.mpr rfl, Cond.after_iff.mpr (eq_i res_at (Term.int_eval (1)) rfl), trivial⟩ ⟨hq.1, hq.2.1, (hq.2.2.sift fun y hy => Or.inr (N y hy)).mono (by decide) (by decide)⟩⟩
theorem main_1_1 : Claimed_1_1 := comes_1 fun _ _ _ _ _ _ h hF => ⟨h.1, hF⟩
theorem main_1_2 : Claimed_1_2 := comes_1 fun _ _ _ _ _ _ h hF => ⟨h.2.1, hF⟩
end Jvm.Pilot.@@N@@
namespace Jvm.Pilot.@@N@@
open Jvm Jvm.ClassFile Sem Op Lib Jvm.Free Jvm.Stand Jvm.Pilot.@@N@@.Jvm.D
/-! MADE BY PROGRAM (witnessworld.py) out of the Statement's table words and the real class files: 12 classes; the members and pool entries that the words name. The judged class is class 1, her method 2. -/
namespace start1
open Jvm.ClassFile
def u (s : String) : CpInfo := .utf8 (stringToUtf16 s)
/-- a pool by its gaps: so many unusable entries, then the entry; so many at the end -/
def gap : Nat → List CpInfo → List CpInfo
  | 0, r => r
  | n + 1, r => .unusable :: gap n r
def poolList (es : List (Nat × CpInfo)) (last : Nat) : List CpInfo := es.foldr (fun e r => gap e.1 (e.2 :: r)) (gap last [])
def pool (es : List (Nat × CpInfo)) (last : Nat) : Array CpInfo := ⟨poolList es last⟩
def fileOf (pool : Array CpInfo) (this : Nat) (attrs : Array Attribute := #[]) (ms : Array MethodInfo := #[]) (fl : Nat := 33) (sup : Nat := 0) (ifs : Array Nat := #[]) (fds : Array FieldInfo := #[]) : ClassFile where
  minorVersion := 0
  majorVersion := 65
  constantPool := pool
  accessFlags := fl
  thisClass := this
  superClass := sup
  interfaces := ifs
  fields := fds
  methods := ms
  attributes := attrs
def plain (name : String) (sup : Option ClassId) : Class where
  name := name
  kind := .ordinary
  loader := none
  accessFlags := 33
  super := sup
  interfaces := #[]
  cf := none
  fields := #[]
  methods := #[]
  instanceTypes := #[]
  staticTypes := #[]
  resolved := #[]
  callSites := []
  init := .initialized
  statics := none
  mirror := none

def pool0 : Array CpInfo := pool [(5, u "<init>"), (0, u "()V"), (1, .class_ 10), (1, u "java/lang/Object")] 113

def k0c0 : Code := { maxStack := 0, maxLocals := 1, code := object_method_1_code, exceptionTable := #[], attributes := #[] }
def k0m0 : Method := { name := "<init>", desc := "()V", sig := { parameters := [], returnType := none }, accessFlags := 1, code := some k0c0 }
/-- java/lang/Object -/
def k0 : Class := { plain "java/lang/Object" none with
  accessFlags := 33
  interfaces := #[]
  cf := some (fileOf pool0 8 #[] #[{ accessFlags := 1, nameIndex := 5, descriptorIndex := 6, attributes := #[] }] 33 0 #[] #[])
  fields := #[]
  methods := #[k0m0]
  instanceTypes := #[]
  staticTypes := #[]
  resolved := Array.replicate 124 none
  statics := none }

def pool1 : Array CpInfo := pool [(2, .class_ 4), (1, u "java/lang/Object"), (0, u "<init>"), (0, u "()V"), (0, .methodref 8 9), (0, .class_ 10), (0, .nameAndType 11 12), (0, u "com/example/rosehip/rosehip/codec/BerReaderHasMorePinLaw"), (0, u "put"), (0, u "([BIJ)V"), (0, .class_ 14), (0, u "com/example/rosehip/rosehip/codec/BerReader"), (0, .methodref 13 16), (0, .nameAndType 5 17), (0, u "([B)V"), (0, .methodref 13 19), (0, .nameAndType 20 21), (0, u "hasMore"), (0, u "()Z"), (0, .integer 2147483647), (0, .methodref 13 24), (0, .nameAndType 25 26), (0, u "read"), (0, u "()Lcom/example/rosehip/rosehip/codec/BerReader$Element;"), (0, .methodref 28 29), (0, .class_ 30), (0, .nameAndType 31 32), (0, u "com/example/rosehip/rosehip/codec/BerReader$Element"), (0, u "end"), (0, u "()I"), (3, u "law"), (0, u "(IIIJ)Z")] 6

def k1m0 : Method := { name := "<init>", desc := "()V", sig := { parameters := [], returnType := none }, accessFlags := 1, code := none }
def k1c1 : Code := { maxStack := 6, maxLocals := 4, code := method_2_code, exceptionTable := #[], attributes := #[] }
def k1m1 : Method := { name := "put", desc := "([BIJ)V", sig := { parameters := [(.array .byte), .int, .long], returnType := none }, accessFlags := 10, code := some k1c1 }
def k1c2 : Code := { maxStack := 4, maxLocals := 13, code := code, exceptionTable := #[], attributes := #[] }
def k1m2 : Method := { name := "law", desc := "(IIIJ)Z", sig := { parameters := [.int, .int, .int, .long], returnType := some .boolean }, accessFlags := 9, code := some k1c2 }
/-- com/example/rosehip/rosehip/codec/BerReaderHasMorePinLaw -/
def k1 : Class := { plain "com/example/rosehip/rosehip/codec/BerReaderHasMorePinLaw" (some 0) with
  accessFlags := 49
  interfaces := #[]
  cf := some (fileOf pool1 8 #[] #[{ accessFlags := 1, nameIndex := 5, descriptorIndex := 6, attributes := #[] }, { accessFlags := 10, nameIndex := 11, descriptorIndex := 12, attributes := #[] }, { accessFlags := 9, nameIndex := 36, descriptorIndex := 37, attributes := #[] }] 49 2 #[] #[])
  fields := #[]
  methods := #[k1m0, k1m1, k1m2]
  instanceTypes := #[]
  staticTypes := #[]
  resolved := Array.replicate 44 none
  statics := none }

def pool2 : Array CpInfo := pool [(3, .methodref 4 5), (0, .class_ 6), (0, .nameAndType 7 8), (0, u "com/example/rosehip/rosehip/codec/BerReader"), (0, u "<init>"), (0, u "([BII)V"), (0, .methodref 10 11), (0, .class_ 12), (0, .nameAndType 7 13), (0, u "java/lang/Object"), (0, u "()V"), (0, .fieldref 4 15), (0, .nameAndType 16 17), (0, u "bytes"), (0, u "[B"), (0, .fieldref 4 19), (0, .nameAndType 20 21), (0, u "position"), (0, u "I"), (0, .fieldref 4 23), (0, .nameAndType 24 21), (0, u "limit"), (0, .methodref 4 26), (0, .nameAndType 27 28), (0, u "header"), (0, u "(I)Lcom/example/rosehip/rosehip/codec/BerReader$Header;"), (0, .long 18446744073709551615), (1, .methodref 32 33), (0, .class_ 34), (0, .nameAndType 35 36), (0, u "com/example/rosehip/rosehip/codec/BerReader$Header"), (0, u "length"), (0, u "()J"), (0, .methodref 32 38), (0, .nameAndType 39 40), (0, u "contentStart"), (0, u "()I"), (4, .methodref 4 46), (0, .nameAndType 47 48), (0, u "hasMore"), (0, u "()Z"), (19, .methodref 32 69), (0, .nameAndType 70 40), (0, u "identifier"), (1, .class_ 73), (0, u "com/example/rosehip/rosehip/codec/BerReader$Progress"), (3, .class_ 78), (0, u "com/example/rosehip/rosehip/codec/BerReader$Element"), (0, .methodref 77 80), (0, .nameAndType 7 81), (0, u "(IIIII)V"), (2, u "read"), (0, u "()Lcom/example/rosehip/rosehip/codec/BerReader$Element;"), (71, u "EIGHTY"), (0, u "Ljava/math/BigInteger;"), (11, u "FORTY"), (51, .long 16777215), (2, .methodref 32 226), (0, .nameAndType 7 227), (0, u "(IJI)V"), (4, u "INTEGER"), (2, u "OCTET_STRING"), (1, u "NULL"), (1, u "OBJECT_IDENTIFIER"), (1, u "ENUMERATED"), (1, u "SEQUENCE"), (1, u "CONSTRUCTED"), (1, u "END_OF_CONTENTS"), (1, u "END_OF_CONTENTS_OCTETS"), (0, u "INDEFINITE"), (0, u "J"), (0, u "LARGEST_LENGTH_BEFORE_SHIFT"), (0, u "HIGH_TAG_NUMBER"), (1, u "INDEFINITE_LENGTH"), (1, u "RESERVED_LENGTH"), (1, u "MAX_SUBIDENTIFIER_OCTETS"), (1, u "([B)V")] 79

def k2c0 : Code := { maxStack := 4, maxLocals := 2, code := prog_7_method_1_code, exceptionTable := #[], attributes := #[] }
def k2m0 : Method := { name := "<init>", desc := "([B)V", sig := { parameters := [(.array .byte)], returnType := none }, accessFlags := 0, code := some k2c0 }
def k2c1 : Code := { maxStack := 2, maxLocals := 4, code := prog_7_method_2_code, exceptionTable := #[], attributes := #[] }
def k2m1 : Method := { name := "<init>", desc := "([BII)V", sig := { parameters := [(.array .byte), .int, .int], returnType := none }, accessFlags := 2, code := some k2c1 }
def k2c2 : Code := { maxStack := 2, maxLocals := 1, code := prog_7_method_4_code, exceptionTable := #[], attributes := #[] }
def k2m2 : Method := { name := "hasMore", desc := "()Z", sig := { parameters := [], returnType := some .boolean }, accessFlags := 0, code := some k2c2 }
def k2c3 : Code := { maxStack := 7, maxLocals := 5, code := prog_7_method_6_code, exceptionTable := #[], attributes := #[] }
def k2m3 : Method := { name := "read", desc := "()Lcom/example/rosehip/rosehip/codec/BerReader$Element;", sig := { parameters := [], returnType := some (.object "com/example/rosehip/rosehip/codec/BerReader$Element") }, accessFlags := 0, code := some k2c3 }
def k2c4 : Code := { maxStack := 6, maxLocals := 9, code := prog_7_method_18_code, exceptionTable := #[], attributes := #[] }
def k2m4 : Method := { name := "header", desc := "(I)Lcom/example/rosehip/rosehip/codec/BerReader$Header;", sig := { parameters := [.int], returnType := some (.object "com/example/rosehip/rosehip/codec/BerReader$Header") }, accessFlags := 2, code := some k2c4 }
/-- com/example/rosehip/rosehip/codec/BerReader -/
def k2 : Class := { plain "com/example/rosehip/rosehip/codec/BerReader" (some 0) with
  accessFlags := 48
  interfaces := #[]
  cf := some (fileOf pool2 4 #[.nestMembers #[32, 72, 77]] #[{ accessFlags := 0, nameIndex := 7, descriptorIndex := 261, attributes := #[] }, { accessFlags := 2, nameIndex := 7, descriptorIndex := 8, attributes := #[] }, { accessFlags := 0, nameIndex := 47, descriptorIndex := 48, attributes := #[] }, { accessFlags := 0, nameIndex := 84, descriptorIndex := 85, attributes := #[] }, { accessFlags := 2, nameIndex := 27, descriptorIndex := 28, attributes := #[] }] 48 10 #[] #[{ accessFlags := 24, nameIndex := 232, descriptorIndex := 21, attributes := #[] }, { accessFlags := 24, nameIndex := 235, descriptorIndex := 21, attributes := #[] }, { accessFlags := 24, nameIndex := 237, descriptorIndex := 21, attributes := #[] }, { accessFlags := 24, nameIndex := 239, descriptorIndex := 21, attributes := #[] }, { accessFlags := 24, nameIndex := 241, descriptorIndex := 21, attributes := #[] }, { accessFlags := 24, nameIndex := 243, descriptorIndex := 21, attributes := #[] }, { accessFlags := 24, nameIndex := 245, descriptorIndex := 21, attributes := #[] }, { accessFlags := 26, nameIndex := 247, descriptorIndex := 21, attributes := #[] }, { accessFlags := 26, nameIndex := 249, descriptorIndex := 21, attributes := #[] }, { accessFlags := 26, nameIndex := 250, descriptorIndex := 251, attributes := #[] }, { accessFlags := 26, nameIndex := 252, descriptorIndex := 251, attributes := #[] }, { accessFlags := 26, nameIndex := 253, descriptorIndex := 21, attributes := #[] }, { accessFlags := 26, nameIndex := 255, descriptorIndex := 21, attributes := #[] }, { accessFlags := 26, nameIndex := 257, descriptorIndex := 21, attributes := #[] }, { accessFlags := 24, nameIndex := 170, descriptorIndex := 158, attributes := #[] }, { accessFlags := 26, nameIndex := 157, descriptorIndex := 158, attributes := #[] }, { accessFlags := 26, nameIndex := 259, descriptorIndex := 21, attributes := #[] }, { accessFlags := 18, nameIndex := 16, descriptorIndex := 17, attributes := #[] }, { accessFlags := 18, nameIndex := 24, descriptorIndex := 21, attributes := #[] }, { accessFlags := 2, nameIndex := 20, descriptorIndex := 21, attributes := #[] }])
  fields := #[{ name := "INTEGER", type := .int, accessFlags := 24, slot := 0, constantValue := 0 }, { name := "OCTET_STRING", type := .int, accessFlags := 24, slot := 1, constantValue := 0 }, { name := "NULL", type := .int, accessFlags := 24, slot := 2, constantValue := 0 }, { name := "OBJECT_IDENTIFIER", type := .int, accessFlags := 24, slot := 3, constantValue := 0 }, { name := "ENUMERATED", type := .int, accessFlags := 24, slot := 4, constantValue := 0 }, { name := "SEQUENCE", type := .int, accessFlags := 24, slot := 5, constantValue := 0 }, { name := "CONSTRUCTED", type := .int, accessFlags := 24, slot := 6, constantValue := 0 }, { name := "END_OF_CONTENTS", type := .int, accessFlags := 26, slot := 7, constantValue := 0 }, { name := "END_OF_CONTENTS_OCTETS", type := .int, accessFlags := 26, slot := 8, constantValue := 0 }, { name := "INDEFINITE", type := .long, accessFlags := 26, slot := 9, constantValue := 0 }, { name := "LARGEST_LENGTH_BEFORE_SHIFT", type := .long, accessFlags := 26, slot := 10, constantValue := 0 }, { name := "HIGH_TAG_NUMBER", type := .int, accessFlags := 26, slot := 11, constantValue := 0 }, { name := "INDEFINITE_LENGTH", type := .int, accessFlags := 26, slot := 12, constantValue := 0 }, { name := "RESERVED_LENGTH", type := .int, accessFlags := 26, slot := 13, constantValue := 0 }, { name := "FORTY", type := (.object "java/math/BigInteger"), accessFlags := 24, slot := 14, constantValue := 0 }, { name := "EIGHTY", type := (.object "java/math/BigInteger"), accessFlags := 26, slot := 15, constantValue := 0 }, { name := "MAX_SUBIDENTIFIER_OCTETS", type := .int, accessFlags := 26, slot := 16, constantValue := 0 }, { name := "bytes", type := (.array .byte), accessFlags := 18, slot := 0, constantValue := 0 }, { name := "limit", type := .int, accessFlags := 18, slot := 1, constantValue := 0 }, { name := "position", type := .int, accessFlags := 2, slot := 2, constantValue := 0 }]
  methods := #[k2m0, k2m1, k2m2, k2m3, k2m4]
  instanceTypes := #[(.array .byte), .int, .int]
  staticTypes := #[.int, .int, .int, .int, .int, .int, .int, .int, .int, .long, .long, .int, .int, .int, (.object "java/math/BigInteger"), (.object "java/math/BigInteger"), .int]
  resolved := ((Array.replicate 341 none).setIfInBounds 32 (some (.cls 4))).setIfInBounds 225 (some (.method ⟨4, 0⟩))
  statics := none }

def pool3 : Array CpInfo := pool [(1, .methodref 2 3), (0, .class_ 4), (0, .nameAndType 5 6), (0, u "java/lang/Object"), (0, u "<init>"), (0, u "()V"), (0, .class_ 8), (0, u "java/lang/Record")] 13

def k3c0 : Code := { maxStack := 1, maxLocals := 1, code := jdk_30_method_1_code, exceptionTable := #[], attributes := #[] }
def k3m0 : Method := { name := "<init>", desc := "()V", sig := { parameters := [], returnType := none }, accessFlags := 4, code := some k3c0 }
/-- java/lang/Record -/
def k3 : Class := { plain "java/lang/Record" (some 0) with
  accessFlags := 1057
  interfaces := #[]
  cf := some (fileOf pool3 7 #[] #[{ accessFlags := 4, nameIndex := 5, descriptorIndex := 6, attributes := #[] }] 1057 2 #[] #[])
  fields := #[]
  methods := #[k3m0]
  instanceTypes := #[]
  staticTypes := #[]
  resolved := Array.replicate 22 none
  statics := none }

def pool4 : Array CpInfo := pool [(1, .methodref 2 3), (0, .class_ 4), (0, .nameAndType 5 6), (0, u "java/lang/Record"), (0, u "<init>"), (0, u "()V"), (0, .fieldref 8 9), (0, .class_ 10), (0, .nameAndType 11 12), (0, u "com/example/rosehip/rosehip/codec/BerReader$Header"), (0, u "identifier"), (0, u "I"), (0, .fieldref 8 14), (0, .nameAndType 15 16), (0, u "length"), (0, u "J"), (0, .fieldref 8 18), (0, .nameAndType 19 12), (0, u "contentStart"), (12, u "(IJI)V"), (4, u "()I"), (1, u "()J"), (3, .class_ 44), (0, u "com/example/rosehip/rosehip/codec/BerReader")] 21

def k4c0 : Code := { maxStack := 3, maxLocals := 5, code := prog_9_method_1_code, exceptionTable := #[], attributes := #[] }
def k4m0 : Method := { name := "<init>", desc := "(IJI)V", sig := { parameters := [.int, .long, .int], returnType := none }, accessFlags := 2, code := some k4c0 }
def k4c1 : Code := { maxStack := 1, maxLocals := 1, code := prog_9_method_5_code, exceptionTable := #[], attributes := #[] }
def k4m1 : Method := { name := "identifier", desc := "()I", sig := { parameters := [], returnType := some .int }, accessFlags := 1, code := some k4c1 }
def k4c2 : Code := { maxStack := 2, maxLocals := 1, code := prog_9_method_6_code, exceptionTable := #[], attributes := #[] }
def k4m2 : Method := { name := "length", desc := "()J", sig := { parameters := [], returnType := some .long }, accessFlags := 1, code := some k4c2 }
def k4c3 : Code := { maxStack := 1, maxLocals := 1, code := prog_9_method_7_code, exceptionTable := #[], attributes := #[] }
def k4m3 : Method := { name := "contentStart", desc := "()I", sig := { parameters := [], returnType := some .int }, accessFlags := 1, code := some k4c3 }
/-- com/example/rosehip/rosehip/codec/BerReader$Header -/
def k4 : Class := { plain "com/example/rosehip/rosehip/codec/BerReader$Header" (some 3) with
  accessFlags := 48
  interfaces := #[]
  cf := some (fileOf pool4 8 #[.nestHost 43] #[{ accessFlags := 2, nameIndex := 5, descriptorIndex := 32, attributes := #[] }, { accessFlags := 1, nameIndex := 11, descriptorIndex := 37, attributes := #[] }, { accessFlags := 1, nameIndex := 15, descriptorIndex := 39, attributes := #[] }, { accessFlags := 1, nameIndex := 19, descriptorIndex := 37, attributes := #[] }] 48 2 #[] #[{ accessFlags := 18, nameIndex := 11, descriptorIndex := 12, attributes := #[] }, { accessFlags := 18, nameIndex := 15, descriptorIndex := 16, attributes := #[] }, { accessFlags := 18, nameIndex := 19, descriptorIndex := 12, attributes := #[] }])
  fields := #[{ name := "identifier", type := .int, accessFlags := 18, slot := 0, constantValue := 0 }, { name := "length", type := .long, accessFlags := 18, slot := 1, constantValue := 0 }, { name := "contentStart", type := .int, accessFlags := 18, slot := 2, constantValue := 0 }]
  methods := #[k4m0, k4m1, k4m2, k4m3]
  instanceTypes := #[.int, .long, .int]
  staticTypes := #[]
  resolved := Array.replicate 66 none
  statics := none }

def pool5 : Array CpInfo := pool [(1, .methodref 2 3), (0, .class_ 4), (0, .nameAndType 5 6), (0, u "java/lang/Record"), (0, u "<init>"), (0, u "()V"), (0, .fieldref 8 9), (0, .class_ 10), (0, .nameAndType 11 12), (0, u "com/example/rosehip/rosehip/codec/BerReader$Element"), (0, u "identifier"), (0, u "I"), (0, .fieldref 8 14), (0, .nameAndType 15 12), (0, u "start"), (0, .fieldref 8 17), (0, .nameAndType 18 12), (0, u "contentStart"), (0, .fieldref 8 20), (0, .nameAndType 21 12), (0, u "contentEnd"), (0, .fieldref 8 23), (0, .nameAndType 24 12), (0, u "end"), (12, u "(IIIII)V"), (4, u "()I"), (4, .class_ 48), (0, u "com/example/rosehip/rosehip/codec/BerReader")] 23

def k5c0 : Code := { maxStack := 2, maxLocals := 6, code := prog_8_method_1_code, exceptionTable := #[], attributes := #[] }
def k5m0 : Method := { name := "<init>", desc := "(IIIII)V", sig := { parameters := [.int, .int, .int, .int, .int], returnType := none }, accessFlags := 0, code := some k5c0 }
def k5c1 : Code := { maxStack := 1, maxLocals := 1, code := prog_8_method_9_code, exceptionTable := #[], attributes := #[] }
def k5m1 : Method := { name := "end", desc := "()I", sig := { parameters := [], returnType := some .int }, accessFlags := 1, code := some k5c1 }
/-- com/example/rosehip/rosehip/codec/BerReader$Element -/
def k5 : Class := { plain "com/example/rosehip/rosehip/codec/BerReader$Element" (some 3) with
  accessFlags := 48
  interfaces := #[]
  cf := some (fileOf pool5 8 #[.nestHost 47] #[{ accessFlags := 0, nameIndex := 5, descriptorIndex := 37, attributes := #[] }, { accessFlags := 1, nameIndex := 24, descriptorIndex := 42, attributes := #[] }] 48 2 #[] #[{ accessFlags := 18, nameIndex := 11, descriptorIndex := 12, attributes := #[] }, { accessFlags := 18, nameIndex := 15, descriptorIndex := 12, attributes := #[] }, { accessFlags := 18, nameIndex := 18, descriptorIndex := 12, attributes := #[] }, { accessFlags := 18, nameIndex := 21, descriptorIndex := 12, attributes := #[] }, { accessFlags := 18, nameIndex := 24, descriptorIndex := 12, attributes := #[] }])
  fields := #[{ name := "identifier", type := .int, accessFlags := 18, slot := 0, constantValue := 0 }, { name := "start", type := .int, accessFlags := 18, slot := 1, constantValue := 0 }, { name := "contentStart", type := .int, accessFlags := 18, slot := 2, constantValue := 0 }, { name := "contentEnd", type := .int, accessFlags := 18, slot := 3, constantValue := 0 }, { name := "end", type := .int, accessFlags := 18, slot := 4, constantValue := 0 }]
  methods := #[k5m0, k5m1]
  instanceTypes := #[.int, .int, .int, .int, .int]
  staticTypes := #[]
  resolved := Array.replicate 72 none
  statics := none }

def pool6 : Array CpInfo := pool [(1, u "java/lang/Cloneable"), (0, .class_ 1), (0, u "java/lang/Object"), (0, .class_ 3)] 3

/-- java/lang/Cloneable -/
def k6 : Class := { plain "java/lang/Cloneable" (some 0) with
  accessFlags := 1537
  interfaces := #[]
  cf := some (fileOf pool6 2 #[] #[] 1537 4 #[] #[])
  fields := #[]
  methods := #[]
  instanceTypes := #[]
  staticTypes := #[]
  resolved := Array.replicate 8 none
  statics := none }

def pool7 : Array CpInfo := pool [(1, u "java/io/Serializable"), (0, .class_ 1), (0, u "java/lang/Object"), (0, .class_ 3)] 3

/-- java/io/Serializable -/
def k7 : Class := { plain "java/io/Serializable" (some 0) with
  accessFlags := 1537
  interfaces := #[]
  cf := some (fileOf pool7 2 #[] #[] 1537 4 #[] #[])
  fields := #[]
  methods := #[]
  instanceTypes := #[]
  staticTypes := #[]
  resolved := Array.replicate 8 none
  statics := none }

/-- the primitive byte -/
def k8 : Class := { plain "byte" none with kind := .primitive 'B', accessFlags := 0x411 }
/-- [B -/
def k9 : Class := { plain "[B" (some 0) with kind := .array 8 .byte, interfaces := #[6, 7], accessFlags := 1041 }

/-- the primitive int -/
def k10 : Class := { plain "int" none with kind := .primitive 'I', accessFlags := 0x411 }
/-- [I -/
def k11 : Class := { plain "[I" (some 0) with kind := .array 10 .int, interfaces := #[6, 7], accessFlags := 1041 }

def heap : Heap := #[]
def classes : Array Class := #[k0, k1, k2, k3, k4, k5, k6, k7, k8, k9, k10, k11]
def interned : List (Array UInt16 × Addr) := []
def slotsUsed : Nat := 0
def theMethod : MethodId := ⟨1, 2⟩
def args0 : Array Value := #[.int 5, .int 300, .int 2, .long 7]
def aboutOver (below : List Frame) : State where
  vm := { classes := classes, interned := interned.toArray }
  heap := heap
  slotsUsed := slotsUsed
  threads := #[{ frames := .invoking theMethod args0 :: below }]
def below0 : List Frame := [.native { method := ⟨0, 0⟩, args := #[] }]
def about1 : State := aboutOver below0
def p0 : Program := .bare "" "" ""
def e0 : Env := launch0.env 0 0 0
theorem w_frames : about1.frames = Frame.invoking theMethod args0 :: below0 := rfl
set_option maxRecDepth 65536 in
theorem w_args : argsFit about1.vm theMethod args0 = true := by decide +kernel
set_option maxRecDepth 65536 in
theorem w_heap : heapFits about1 = true := by decide +kernel
set_option maxRecDepth 65536 in
theorem w_runnable : about1.curStatus? = some .runnable := by decide +kernel
set_option maxRecDepth 65536 in
theorem w_alone : about1.alone = true := by decide +kernel
set_option maxRecDepth 65536 in
theorem w_named : about1.methodNamed? x = some theMethod := by decide +kernel
set_option maxRecDepth 65536 in
theorem w_hears : about1.hears theMethod below0 = true := by decide +kernel
set_option maxRecDepth 65536 in
theorem w_ripe : about1.ripe theMethod args0 below0 = true := by decide +kernel
theorem w_running : about1.status = .running := rfl
set_option maxRecDepth 65536 in
theorem w_room : about1.hasRoom e0.platform room_1 = true :=
  launch0.hasRoom_least _ room_1 (by decide +kernel) (by decide +kernel) (by decide +kernel) (by decide +kernel) (by decide +kernel) (by decide +kernel)
theorem allAtoms_all (ts : List Jvm.Cond) (a : Array Jvm.Value) (st : Jvm.State) : (allAtoms ts).before a st = ts.all (fun c => c.before a st) := by
  induction ts with
  | nil => rfl
  | cons c t ih =>
    show (Jvm.Cond.and c (allAtoms t)).before a st = _
    rw [Jvm.Cond.before_and, ih, List.all_cons]
def words1 : List Jvm.Cond := Jvm.Cond.code x code maxLocals ret :: tables_1
/-- a 'code' word, met by the world's own term for the bytes: nothing is compared byte by byte -/
theorem code_word {y : MethodName} {bytes : ByteArray} {mx : Nat} {rt : Option FieldType} {a : Array Value} {s : State} {m : MethodId} {meth : Method} {c : Code} (h1 : s.methodNamed? y = some m) (h2 : s.vm.method? m = some meth) (h3 : meth.code = some c) (h4 : c.code = bytes)
    (h5 : (c.maxLocals == mx && c.exceptionTable.isEmpty && decide (c.maxStack ≤ mostOperands) && decide (meth.sig.returnType = rt) && !meth.locks && decide (parseMethodDescriptor y.desc = some meth.sig)) = true) : (Jvm.Cond.code y bytes mx rt).before a s = true := by
  simp only [Bool.and_eq_true, beq_iff_eq, Bool.not_eq_true', decide_eq_true_eq] at h5
  obtain ⟨⟨⟨⟨⟨g1, g2⟩, g3⟩, g4⟩, g5⟩, g6⟩ := h5
  simp [Cond.before, Cond.holds, Cond.value, h1, h2, h3, h4, g1, g2, g3, g4, g5, g6]
def isCode : Jvm.Cond → Bool
  | .code _ _ _ _ => true
  | _ => false
theorem all_split {L : List Jvm.Cond} {P : Jvm.Cond → Bool} (h1 : L.all (fun c => isCode c || P c) = true) (h2 : ∀ c ∈ L.filter isCode, P c = true) : L.all P = true := by
  refine List.all_eq_true.mpr fun c hc => ?_
  have h := List.all_eq_true.mp h1 c hc
  rcases Bool.eq_false_or_eq_true (isCode c) with hi | hi
  · exact h2 c (List.mem_filter.mpr ⟨hc, hi⟩)
  · simpa [hi] using h
set_option maxRecDepth 65536 in
theorem w_c0 : (Jvm.Cond.code x code maxLocals ret).before args0 about1 = true := code_word (m := ⟨1, 2⟩) (meth := k1m2) (c := k1c2) (by decide +kernel) rfl rfl rfl (by decide +kernel)
set_option maxRecDepth 65536 in
theorem w_c1 : (Jvm.Cond.code ({ cls := "com/example/rosehip/rosehip/codec/BerReaderHasMorePinLaw", name := "put", desc := "([BIJ)V" } : Jvm.MethodName) method_2_code (4 : Nat) (Option.none : Option Jvm.ClassFile.FieldType)).before args0 about1 = true := code_word (m := ⟨1, 1⟩) (meth := k1m1) (c := k1c1) (by decide +kernel) rfl rfl rfl (by decide +kernel)
set_option maxRecDepth 65536 in
theorem w_c2 : (Jvm.Cond.code ({ cls := "com/example/rosehip/rosehip/codec/BerReader", name := "<init>", desc := "([B)V" } : Jvm.MethodName) prog_7_method_1_code (2 : Nat) (Option.none : Option Jvm.ClassFile.FieldType)).before args0 about1 = true := code_word (m := ⟨2, 0⟩) (meth := k2m0) (c := k2c0) (by decide +kernel) rfl rfl rfl (by decide +kernel)
set_option maxRecDepth 65536 in
theorem w_c3 : (Jvm.Cond.code ({ cls := "com/example/rosehip/rosehip/codec/BerReader", name := "<init>", desc := "([BII)V" } : Jvm.MethodName) prog_7_method_2_code (4 : Nat) (Option.none : Option Jvm.ClassFile.FieldType)).before args0 about1 = true := code_word (m := ⟨2, 1⟩) (meth := k2m1) (c := k2c1) (by decide +kernel) rfl rfl rfl (by decide +kernel)
set_option maxRecDepth 65536 in
theorem w_c4 : (Jvm.Cond.code ({ cls := "java/lang/Object", name := "<init>", desc := "()V" } : Jvm.MethodName) object_method_1_code (1 : Nat) (Option.none : Option Jvm.ClassFile.FieldType)).before args0 about1 = true := code_word (m := ⟨0, 0⟩) (meth := k0m0) (c := k0c0) (by decide +kernel) rfl rfl rfl (by decide +kernel)
set_option maxRecDepth 65536 in
theorem w_c5 : (Jvm.Cond.code ({ cls := "com/example/rosehip/rosehip/codec/BerReader", name := "hasMore", desc := "()Z" } : Jvm.MethodName) prog_7_method_4_code (1 : Nat) (Option.some Jvm.ClassFile.FieldType.boolean)).before args0 about1 = true := code_word (m := ⟨2, 2⟩) (meth := k2m2) (c := k2c2) (by decide +kernel) rfl rfl rfl (by decide +kernel)
set_option maxRecDepth 65536 in
theorem w_c6 : (Jvm.Cond.code ({ cls := "com/example/rosehip/rosehip/codec/BerReader", name := "read", desc := "()Lcom/example/rosehip/rosehip/codec/BerReader$Element;" } : Jvm.MethodName) prog_7_method_6_code (5 : Nat) (Option.some (Jvm.ClassFile.FieldType.object "com/example/rosehip/rosehip/codec/BerReader$Element"))).before args0 about1 = true := code_word (m := ⟨2, 3⟩) (meth := k2m3) (c := k2c3) (by decide +kernel) rfl rfl rfl (by decide +kernel)
set_option maxRecDepth 65536 in
theorem w_c7 : (Jvm.Cond.code ({ cls := "com/example/rosehip/rosehip/codec/BerReader", name := "header", desc := "(I)Lcom/example/rosehip/rosehip/codec/BerReader$Header;" } : Jvm.MethodName) prog_7_method_18_code (9 : Nat) (Option.some (Jvm.ClassFile.FieldType.object "com/example/rosehip/rosehip/codec/BerReader$Header"))).before args0 about1 = true := code_word (m := ⟨2, 4⟩) (meth := k2m4) (c := k2c4) (by decide +kernel) rfl rfl rfl (by decide +kernel)
set_option maxRecDepth 65536 in
theorem w_c8 : (Jvm.Cond.code ({ cls := "com/example/rosehip/rosehip/codec/BerReader$Header", name := "<init>", desc := "(IJI)V" } : Jvm.MethodName) prog_9_method_1_code (5 : Nat) (Option.none : Option Jvm.ClassFile.FieldType)).before args0 about1 = true := code_word (m := ⟨4, 0⟩) (meth := k4m0) (c := k4c0) (by decide +kernel) rfl rfl rfl (by decide +kernel)
set_option maxRecDepth 65536 in
theorem w_c9 : (Jvm.Cond.code ({ cls := "java/lang/Record", name := "<init>", desc := "()V" } : Jvm.MethodName) jdk_30_method_1_code (1 : Nat) (Option.none : Option Jvm.ClassFile.FieldType)).before args0 about1 = true := code_word (m := ⟨3, 0⟩) (meth := k3m0) (c := k3c0) (by decide +kernel) rfl rfl rfl (by decide +kernel)
set_option maxRecDepth 65536 in
theorem w_c10 : (Jvm.Cond.code ({ cls := "com/example/rosehip/rosehip/codec/BerReader$Header", name := "identifier", desc := "()I" } : Jvm.MethodName) prog_9_method_5_code (1 : Nat) (Option.some Jvm.ClassFile.FieldType.int)).before args0 about1 = true := code_word (m := ⟨4, 1⟩) (meth := k4m1) (c := k4c1) (by decide +kernel) rfl rfl rfl (by decide +kernel)
set_option maxRecDepth 65536 in
theorem w_c11 : (Jvm.Cond.code ({ cls := "com/example/rosehip/rosehip/codec/BerReader$Header", name := "length", desc := "()J" } : Jvm.MethodName) prog_9_method_6_code (1 : Nat) (Option.some Jvm.ClassFile.FieldType.long)).before args0 about1 = true := code_word (m := ⟨4, 2⟩) (meth := k4m2) (c := k4c2) (by decide +kernel) rfl rfl rfl (by decide +kernel)
set_option maxRecDepth 65536 in
theorem w_c12 : (Jvm.Cond.code ({ cls := "com/example/rosehip/rosehip/codec/BerReader$Header", name := "contentStart", desc := "()I" } : Jvm.MethodName) prog_9_method_7_code (1 : Nat) (Option.some Jvm.ClassFile.FieldType.int)).before args0 about1 = true := code_word (m := ⟨4, 3⟩) (meth := k4m3) (c := k4c3) (by decide +kernel) rfl rfl rfl (by decide +kernel)
set_option maxRecDepth 65536 in
theorem w_c13 : (Jvm.Cond.code ({ cls := "com/example/rosehip/rosehip/codec/BerReader$Element", name := "<init>", desc := "(IIIII)V" } : Jvm.MethodName) prog_8_method_1_code (6 : Nat) (Option.none : Option Jvm.ClassFile.FieldType)).before args0 about1 = true := code_word (m := ⟨5, 0⟩) (meth := k5m0) (c := k5c0) (by decide +kernel) rfl rfl rfl (by decide +kernel)
set_option maxRecDepth 65536 in
theorem w_c14 : (Jvm.Cond.code ({ cls := "com/example/rosehip/rosehip/codec/BerReader$Element", name := "end", desc := "()I" } : Jvm.MethodName) prog_8_method_9_code (1 : Nat) (Option.some Jvm.ClassFile.FieldType.int)).before args0 about1 = true := code_word (m := ⟨5, 1⟩) (meth := k5m1) (c := k5c1) (by decide +kernel) rfl rfl rfl (by decide +kernel)
def codes1 : List Jvm.Cond := [Jvm.Cond.code x code maxLocals ret, Jvm.Cond.code ({ cls := "com/example/rosehip/rosehip/codec/BerReaderHasMorePinLaw", name := "put", desc := "([BIJ)V" } : Jvm.MethodName) method_2_code (4 : Nat) (Option.none : Option Jvm.ClassFile.FieldType), Jvm.Cond.code ({ cls := "com/example/rosehip/rosehip/codec/BerReader", name := "<init>", desc := "([B)V" } : Jvm.MethodName) prog_7_method_1_code (2 : Nat) (Option.none : Option Jvm.ClassFile.FieldType), Jvm.Cond.code ({ cls := "com/example/rosehip/rosehip/codec/BerReader", name := "<init>", desc := "([BII)V" } : Jvm.MethodName) prog_7_method_2_code (4 : Nat) (Option.none : Option Jvm.ClassFile.FieldType), Jvm.Cond.code ({ cls := "java/lang/Object", name := "<init>", desc := "()V" } : Jvm.MethodName) object_method_1_code (1 : Nat) (Option.none : Option Jvm.ClassFile.FieldType), Jvm.Cond.code ({ cls := "com/example/rosehip/rosehip/codec/BerReader", name := "hasMore", desc := "()Z" } : Jvm.MethodName) prog_7_method_4_code (1 : Nat) (Option.some Jvm.ClassFile.FieldType.boolean), Jvm.Cond.code ({ cls := "com/example/rosehip/rosehip/codec/BerReader", name := "read", desc := "()Lcom/example/rosehip/rosehip/codec/BerReader$Element;" } : Jvm.MethodName) prog_7_method_6_code (5 : Nat) (Option.some (Jvm.ClassFile.FieldType.object "com/example/rosehip/rosehip/codec/BerReader$Element")), Jvm.Cond.code ({ cls := "com/example/rosehip/rosehip/codec/BerReader", name := "header", desc := "(I)Lcom/example/rosehip/rosehip/codec/BerReader$Header;" } : Jvm.MethodName) prog_7_method_18_code (9 : Nat) (Option.some (Jvm.ClassFile.FieldType.object "com/example/rosehip/rosehip/codec/BerReader$Header")), Jvm.Cond.code ({ cls := "com/example/rosehip/rosehip/codec/BerReader$Header", name := "<init>", desc := "(IJI)V" } : Jvm.MethodName) prog_9_method_1_code (5 : Nat) (Option.none : Option Jvm.ClassFile.FieldType), Jvm.Cond.code ({ cls := "java/lang/Record", name := "<init>", desc := "()V" } : Jvm.MethodName) jdk_30_method_1_code (1 : Nat) (Option.none : Option Jvm.ClassFile.FieldType), Jvm.Cond.code ({ cls := "com/example/rosehip/rosehip/codec/BerReader$Header", name := "identifier", desc := "()I" } : Jvm.MethodName) prog_9_method_5_code (1 : Nat) (Option.some Jvm.ClassFile.FieldType.int), Jvm.Cond.code ({ cls := "com/example/rosehip/rosehip/codec/BerReader$Header", name := "length", desc := "()J" } : Jvm.MethodName) prog_9_method_6_code (1 : Nat) (Option.some Jvm.ClassFile.FieldType.long), Jvm.Cond.code ({ cls := "com/example/rosehip/rosehip/codec/BerReader$Header", name := "contentStart", desc := "()I" } : Jvm.MethodName) prog_9_method_7_code (1 : Nat) (Option.some Jvm.ClassFile.FieldType.int), Jvm.Cond.code ({ cls := "com/example/rosehip/rosehip/codec/BerReader$Element", name := "<init>", desc := "(IIIII)V" } : Jvm.MethodName) prog_8_method_1_code (6 : Nat) (Option.none : Option Jvm.ClassFile.FieldType), Jvm.Cond.code ({ cls := "com/example/rosehip/rosehip/codec/BerReader$Element", name := "end", desc := "()I" } : Jvm.MethodName) prog_8_method_9_code (1 : Nat) (Option.some Jvm.ClassFile.FieldType.int)]
set_option maxRecDepth 65536 in
theorem codes_eq : words1.filter isCode = codes1 := rfl
theorem w_codes : ∀ c ∈ words1.filter isCode, c.before args0 about1 = true := by
  rw [codes_eq]
  intro c hc
  simp only [codes1, List.mem_cons, List.not_mem_nil, or_false] at hc
  rcases hc with rfl | rfl | rfl | rfl | rfl | rfl | rfl | rfl | rfl | rfl | rfl | rfl | rfl | rfl | rfl
  · exact w_c0
  · exact w_c1
  · exact w_c2
  · exact w_c3
  · exact w_c4
  · exact w_c5
  · exact w_c6
  · exact w_c7
  · exact w_c8
  · exact w_c9
  · exact w_c10
  · exact w_c11
  · exact w_c12
  · exact w_c13
  · exact w_c14
set_option maxRecDepth 65536 in
theorem w_t1 : (words1.take 24).all (fun c => isCode c || c.before args0 about1) = true := by decide +kernel
set_option maxRecDepth 65536 in
theorem w_t2 : ((words1.drop 24).take 24).all (fun c => isCode c || c.before args0 about1) = true := by decide +kernel
set_option maxRecDepth 65536 in
theorem w_t3 : (((words1.drop 24).drop 24).take 24).all (fun c => isCode c || c.before args0 about1) = true := by decide +kernel
set_option maxRecDepth 65536 in
theorem w_t4 : ((((words1.drop 24).drop 24).drop 24).take 24).all (fun c => isCode c || c.before args0 about1) = true := by decide +kernel
set_option maxRecDepth 65536 in
theorem w_t5 : ((((words1.drop 24).drop 24).drop 24).drop 24).all (fun c => isCode c || c.before args0 about1) = true := by decide +kernel
theorem w_tables : (allAtoms (Jvm.Cond.code x code maxLocals ret :: tables_1)).before args0 about1 = true := by
  rw [allAtoms_all]
  show words1.all (fun c => c.before args0 about1) = true
  refine all_split ?_ w_codes
  rw [← List.take_append_drop 24 words1, List.all_append, w_t1, ← List.take_append_drop 24 (words1.drop 24), List.all_append, w_t2, ← List.take_append_drop 24 ((words1.drop 24).drop 24), List.all_append, w_t3, ← List.take_append_drop 24 (((words1.drop 24).drop 24).drop 24), List.all_append, w_t4, w_t5]
  rfl
set_option maxRecDepth 65536 in
theorem w_case : (Jvm.Cond.and given_1 narrow_1).before args0 about1 = true := by decide +kernel
theorem w_applies : (headSpec (Jvm.Cond.code x code maxLocals ret :: tables_1) room_1).applies x e0.platform about1 = true :=
  (Spec.applies_iff w_frames).mpr ⟨w_running, w_runnable, w_alone, w_named, w_hears, w_ripe, w_room, w_tables⟩
theorem atStart : AtStart classFile x code maxLocals ret World_1 tables_1 room_1 Calls_1 rest_1 Pre_1 launch0 p0 e0 about1 theMethod args0 below0 :=
  ⟨lists_1, trivial, launch0.admits_env _ _ _, launch0.least_env, fairChoices_fair.cas, fairChoices_fair.clock, w_frames, w_args, w_heap, w_applies, trivial, trivial, w_case⟩
end start1
theorem witness_1 : WitnessClaimed_1 := ⟨start1.p0, start1.e0, start1.about1, start1.theMethod, start1.args0, start1.below0, start1.atStart⟩
end Jvm.Pilot.@@N@@
