import JvmDerived
import JvmDerived.Pilot.@@N@@Statement
import JvmDerived.Pilot.@@N@@Code
set_option linter.unusedVariables false
set_option linter.unusedSimpArgs false
namespace Jvm.Pilot.@@N@@
open Jvm Jvm.ClassFile Sem Op Lib Jvm.Free Jvm.Stand Jvm.LawKit Jvm.RoadKit Bundle Jvm.Pilot.@@N@@.Jvm.D
/-! 0. the frame of a walk: from state A the body comes to an end of which Q holds -/
def own_G (tb : Tables) (e : Env) (below : List Frame) (s : State) (Q : Option Value → Heap → List Loc → Prop) (k n : Nat) (A : State) : Prop :=
  ∃ t o, Steps tb e below A t ∧ t.status = .running ∧ Ended t below o ∧ ∃ v L, o = .returned v ∧ Q v t.heap L ∧ FrameEnd s o t L k n
theorem own_step {tb : Tables} {e : Env} {below : List Frame} {s : State} {Q : Option Value → Heap → List Loc → Prop} {k n : Nat} {A B : State}
    (h : ∀ t, Steps tb e below B t → Steps tb e below A t) (g : own_G tb e below s Q k n B) : own_G tb e below s Q k n A := by
  obtain ⟨t, o, h1, h2⟩ := g
  exact ⟨t, o, h t h1, h2⟩
section Rets
variable {p : Program} {l : Launch} {e : Env} {R : Room} {s : State} {m : MethodId} {args : Array Value} {below : List Frame} {meth : Method} {c : Code} {T : State} {locs : List Loc} {cells slots : Nat} {Q : Option Value → Heap → List Loc → Prop} {k n : Nat}
theorem own_out (X : Stand p l e R s m args below meth c T locs cells slots) {v : Option Value} (hv : meth.sig.returnType = none → v = none) (hlk : meth.locks = false) {F : JFrame}
    (hs : ∀ fs, (∀ (f : JFrame) (acts : List Action), f.method = m → f.locked = none → f.entered = [] → (doReturn e (T.setTop f) acts v).1 = T.setFrames fs) → Steps p.tables e below (T.setTop F) (T.setFrames fs))
    (hk : cells ≤ k) (hn : slots ≤ n) (hQ : Q v T.heap locs) : own_G p.tables e below s Q k n (T.setTop F) := by
  obtain ⟨fs, hr, hrun, hended, hW, hsame⟩ := X.leave hv hlk
  exact ⟨_, _, hs fs hr, hrun, hended, _, _, rfl, hQ, ⟨_, rfl⟩, hW, hsame.mono hk hn⟩
theorem own_retV (X : Stand p l e R s m args below meth c T locs cells slots) (hx : p.tables.exec = Jvm.exec) (hlk : meth.locks = false) {pc : Nat} {Ls : Array Slot} (hret : meth.sig.returnType = none) (hd : decode c.code pc = .ok (.return_, 1))
    (hk : cells ≤ k) (hn : slots ≤ n) (hQ : Q none T.heap locs) : own_G p.tables e below s Q k n (T.setTop (mkF m pc Ls [])) :=
  own_out X (fun _ => rfl) hlk (fun fs hr => X.returnOut hx hret hd hr) hk hn hQ
theorem own_retN (X : Stand p l e R s m args below meth c T locs cells slots) (hx : p.tables.exec = Jvm.exec) (hlk : meth.locks = false) {pc : Nat} {Ls : Array Slot} {z : Int32} {t : FieldType} {rest : List Value} (hret : meth.sig.returnType = some t) (ht : t = .boolean ∨ t = .byte ∨ t = .char ∨ t = .short) (hd : decode c.code pc = .ok (.ireturn, 1))
    (hk : cells ≤ k) (hn : slots ≤ n) (hQ : Q (some (.int (nar t z))) T.heap locs) : own_G p.tables e below s Q k n (T.setTop (mkF m pc Ls (.int z :: rest))) :=
  own_out X (fun h => by rw [hret] at h; cases h) hlk (fun fs hr => retN X hx hret ht hd hr) hk hn hQ
theorem own_retI (X : Stand p l e R s m args below meth c T locs cells slots) (hx : p.tables.exec = Jvm.exec) (hlk : meth.locks = false) {pc : Nat} {Ls : Array Slot} {z : Int32} {rest : List Value} (hret : meth.sig.returnType = some .int) (hd : decode c.code pc = .ok (.ireturn, 1))
    (hk : cells ≤ k) (hn : slots ≤ n) (hQ : Q (some (.int z)) T.heap locs) : own_G p.tables e below s Q k n (T.setTop (mkF m pc Ls (.int z :: rest))) :=
  own_out X (fun h => by rw [hret] at h; cases h) hlk (fun fs hr => retOut X hx hret rfl (Or.inl ⟨rfl, Or.inl rfl, _, rfl⟩) hd hr) hk hn hQ
theorem own_retJ (X : Stand p l e R s m args below meth c T locs cells slots) (hx : p.tables.exec = Jvm.exec) (hlk : meth.locks = false) {pc : Nat} {Ls : Array Slot} {z : Int64} {rest : List Value} (hret : meth.sig.returnType = some .long) (hd : decode c.code pc = .ok (.lreturn, 1))
    (hk : cells ≤ k) (hn : slots ≤ n) (hQ : Q (some (.long z)) T.heap locs) : own_G p.tables e below s Q k n (T.setTop (mkF m pc Ls (.long z :: rest))) :=
  own_out X (fun h => by rw [hret] at h; cases h) hlk (fun fs hr => retOut X hx hret rfl (Or.inr (Or.inl ⟨rfl, rfl, _, rfl⟩)) hd hr) hk hn hQ
theorem own_retA (X : Stand p l e R s m args below meth c T locs cells slots) (hx : p.tables.exec = Jvm.exec) (hlk : meth.locks = false) {pc : Nat} {Ls : Array Slot} {a : Addr} {t : FieldType} {rest : List Value} (hret : meth.sig.returnType = some t) (hd : decode c.code pc = .ok (.areturn, 1)) (ht : t.isReference = true)
    (hk : cells ≤ k) (hn : slots ≤ n) (hQ : Q (some (.ref a)) T.heap locs) : own_G p.tables e below s Q k n (T.setTop (mkF m pc Ls (.ref a :: rest))) :=
  own_out X (fun h => by rw [hret] at h; cases h) hlk (fun fs hr => retOut X hx hret (by cases t <;> first | rfl | cases ht) (Or.inr (Or.inr (Or.inr (Or.inr ⟨rfl, ht, rfl⟩)))) hd hr) hk hn hQ
end Rets

theorem pd_0 : parseMethodDescriptor "()V" = some ⟨[], none⟩ := by decide +kernel
theorem pd_1 : parseMethodDescriptor "(IIII)I" = some ⟨[.int, .int, .int, .int], some .int⟩ := by decide +kernel
theorem pd_2 : parseMethodDescriptor "(JIIZ[I)V" = some ⟨[.long, .int, .int, .boolean, (.array .int)], none⟩ := by decide +kernel
theorem pd_3 : parseMethodDescriptor "(I)Z" = some ⟨[.int], some .boolean⟩ := by decide +kernel
/-! 1. the plain law -/
def own_w (s k key : Int32) : Int32 := if s = 1 then (if k = key then 1 else 0) else 0
def own_ex1 (c0 : Int32) : Int32 := if c0 = 0 then 1 else 0
def own_ex2 (c0 c1 : Int32) : Int32 := if c0 = 0 then (if c1 = 0 then 1 else 0) else 0
def own_ex3 (c0 c1 c2 : Int32) : Int32 := if c0 = 0 then (if c1 = 0 then (if c2 = 0 then 1 else 0) else 0) else 0
theorem own_and3 (x : Int32) : x &&& 3 = 0 ∨ x &&& 3 = 1 ∨ x &&& 3 = 2 ∨ x &&& 3 = 3 := by
  have m := c_mask x 3 2 (by decide) (by decide)
  simp only [← Int32.toInt_inj, Int32.reduceToInt]
  omega
/-! 2. the walks -/
theorem d1_0 : decode method_2_code 0 = .ok (.iload_n 0, 1) := by decide +kernel
theorem d1_1 : decode method_2_code 1 = .ok (.ifCond .ne 5, 3) := by decide +kernel
theorem d1_4 : decode method_2_code 4 = .ok (.iload_n 1, 1) := by decide +kernel
theorem d1_5 : decode method_2_code 5 = .ok (.ireturn, 1) := by decide +kernel
theorem d1_6 : decode method_2_code 6 = .ok (.iload_n 0, 1) := by decide +kernel
theorem d1_7 : decode method_2_code 7 = .ok (.iconst 1, 1) := by decide +kernel
theorem d1_8 : decode method_2_code 8 = .ok (.if_icmp .ne 5, 3) := by decide +kernel
theorem d1_11 : decode method_2_code 11 = .ok (.iload_n 2, 1) := by decide +kernel
theorem d1_12 : decode method_2_code 12 = .ok (.ireturn, 1) := by decide +kernel
theorem d1_13 : decode method_2_code 13 = .ok (.iload_n 0, 1) := by decide +kernel
theorem d1_14 : decode method_2_code 14 = .ok (.iconst 2, 1) := by decide +kernel
theorem d1_15 : decode method_2_code 15 = .ok (.if_icmp .ne 5, 3) := by decide +kernel
theorem d1_18 : decode method_2_code 18 = .ok (.iload_n 3, 1) := by decide +kernel
theorem d1_19 : decode method_2_code 19 = .ok (.ireturn, 1) := by decide +kernel
theorem d1_20 : decode method_2_code 20 = .ok (.iload_n 1, 1) := by decide +kernel
theorem d1_21 : decode method_2_code 21 = .ok (.iconst (-1), 1) := by decide +kernel
theorem d1_22 : decode method_2_code 22 = .ok (.ixor, 1) := by decide +kernel
theorem d1_23 : decode method_2_code 23 = .ok (.ireturn, 1) := by decide +kernel
theorem pn_com_example_tightrope_tightrope_history_TransactionReadsFromOutsidePinLaw : plainName "com/example/tightrope/tightrope/history/TransactionReadsFromOutsidePinLaw" = true := by first | (simp [plainName, overriddenIn]; done) | decide +kernel
theorem ef_rm1 (m : MethodId) (x0 : Int32) (x1 : Int32) (x2 : Int32) (x3 : Int32) : entryFrame m #[(.int x0), (.int x1), (.int x2), (.int x3)] 4 = mkF m 0 #[.val (.int x0), .val (.int x1), .val (.int x2), .val (.int x3)] [] := by first | (simp [entryFrame, mkF, argsToLocals, Value.category]; done) | rfl
def QQ_rm1 (Z : State) (p0 : Int32) (p1 : Int32) (p2 : Int32) (p3 : Int32)  (h0 : Heap) (n0 : Nat) (v : Option Value) (h : Heap) (L : List Loc) : Prop := ∃ z : Int32, v = some (.int z) ∧ Fr n0 L ∧ h = h0
set_option maxRecDepth 65536 in
set_option maxHeartbeats 40000000 in
theorem rm1 (l : Launch) (Z : State) (a0 : Array Value) (hw : ∀ d ∈ tables_1, d.before a0 Z = true) (ws : List Jvm.Cond) (p0 : Int32) (p1 : Int32) (p2 : Int32) (p3 : Int32)  (h0 : Heap) (n0 : Nat) (Z0 : n0 ≤ h0.size)  :
    MetFree l (⟨"com/example/tightrope/tightrope/history/TransactionReadsFromOutsidePinLaw", "pick", "(IIII)I"⟩ : MethodName) (head1 (Jvm.Cond.code (⟨"com/example/tightrope/tightrope/history/TransactionReadsFromOutsidePinLaw", "pick", "(IIII)I"⟩ : MethodName) method_2_code 4 (some .int) :: ws) ({ frames := 0, cells := 0, slots := 0, locals := 0 } : Room)) (fun a U => a = #[(.int p0), (.int p1), (.int p2), (.int p3)] ∧ Z.Warmed39 U.vm ∧ U.heap = h0) (fun _ _ _ _ _ => True) (fun _ U o U' => ∃ v L, o = .returned v ∧ (QQ_rm1 Z p0 p1 p2 p3 h0 n0) v U'.heap L ∧ FrameEnd U o U' L ({ frames := 0, cells := 0, slots := 0, locals := 0 } : Room).cells ({ frames := 0, cells := 0, slots := 0, locals := 0 } : Room).slots) := by
  refine MetFree.of_bodySF (plainFor_of_name pn_com_example_tightrope_tightrope_history_TransactionReadsFromOutsidePinLaw) hisR ?_
  intro p e s m args below meth c s₁ Bd hml0 hP hK
  obtain ⟨rfl, hZ, hh⟩ := hP
  have hx := Bd.exec
  have hby := Bd.bytes
  have hlk : meth.locks = false := BodyLoose.notSynchronized Bd
  have hml : c.maxLocals = 4 := hml0
  have hown : s.vm.findClass "com/example/tightrope/tightrope/history/TransactionReadsFromOutsidePinLaw" = some m.cls := findClass_of_methodNamed Bd.named
  have hnm := (name_of_methodNamed Bd.named Bd.method).1
  have X0 : Stand p l e ({ frames := 0, cells := 0, slots := 0, locals := 0 } : Room) s m #[(.int p0), (.int p1), (.int p2), (.int p3)] below meth c s₁ [] 0 0 := Stand.of_body Bd
  have e0 : s₁.heap = h0 := by rw [← hh, Bd.state]; rfl
  have N0 := Fr.nil n0
  show own_G p.tables e below s (QQ_rm1 Z p0 p1 p2 p3 h0 n0) ({ frames := 0, cells := 0, slots := 0, locals := 0 } : Room).cells ({ frames := 0, cells := 0, slots := 0, locals := 0 } : Room).slots (s₁.setTop (entryFrame m #[(.int p0), (.int p1), (.int p2), (.int p3)] 4))
  refine own_step (B := s₁.setTop (mkF m 0 #[.val (.int p0), .val (.int p1), .val (.int p2), .val (.int p3)] [])) (fun t k => castTop (ef_rm1 m p0 p1 p2 p3) k) ?_
  refine own_step (B := s₁.setTop (mkF m 1 #[.val (.int p0), .val (.int p1), .val (.int p2), .val (.int p3)] [(.int p0)])) (fun t k => XS.iloadN X0.here hx rfl (hb hby d1_0) rfl k) ?_
  by_cases hc1 : p0 = (0 : Int32)
  · skip
    refine own_step (B := s₁.setTop (mkF m 4 #[.val (.int p0), .val (.int p1), .val (.int p2), .val (.int p3)] [])) (fun t k => XS.ifNo X0.here hx rfl (hb hby d1_1) rfl ((if0 _ _).trans (teq hc1).2) k) ?_
    refine own_step (B := s₁.setTop (mkF m 5 #[.val (.int p0), .val (.int p1), .val (.int p2), .val (.int p3)] [(.int p1)])) (fun t k => XS.iloadN X0.here hx rfl (hb hby d1_4) rfl k) ?_
    exact own_retI X0 hx hlk Bd.returns (hb hby d1_5) (by decide) (by decide) (by exact ⟨_, rfl, N0, e0⟩)
  · skip
    refine own_step (B := s₁.setTop (mkF m 6 #[.val (.int p0), .val (.int p1), .val (.int p2), .val (.int p3)] [])) (fun t k => XS.ifYes X0.here hx rfl (pc0 := 1) (pc' := 6) rfl (hb hby d1_1) rfl ((if0 _ _).trans (feq hc1).2) (by decide) (by decide) k) ?_
    refine own_step (B := s₁.setTop (mkF m 7 #[.val (.int p0), .val (.int p1), .val (.int p2), .val (.int p3)] [(.int p0)])) (fun t k => XS.iloadN X0.here hx rfl (hb hby d1_6) rfl k) ?_
    refine own_step (B := s₁.setTop (mkF m 8 #[.val (.int p0), .val (.int p1), .val (.int p2), .val (.int p3)] [(.int (1 : Int32)), (.int p0)])) (fun t k => XS.iconst X0.here hx rfl (hb hby d1_7) k) ?_
    by_cases hc8 : p0 = (1 : Int32)
    · skip
      refine own_step (B := s₁.setTop (mkF m 11 #[.val (.int p0), .val (.int p1), .val (.int p2), .val (.int p3)] [])) (fun t k => XS.icmpNo X0.here hx rfl (hb hby d1_8) rfl (teq hc8).2 k) ?_
      refine own_step (B := s₁.setTop (mkF m 12 #[.val (.int p0), .val (.int p1), .val (.int p2), .val (.int p3)] [(.int p2)])) (fun t k => XS.iloadN X0.here hx rfl (hb hby d1_11) rfl k) ?_
      exact own_retI X0 hx hlk Bd.returns (hb hby d1_12) (by decide) (by decide) (by exact ⟨_, rfl, N0, e0⟩)
    · skip
      refine own_step (B := s₁.setTop (mkF m 13 #[.val (.int p0), .val (.int p1), .val (.int p2), .val (.int p3)] [])) (fun t k => XS.icmpYes X0.here hx rfl (pc0 := 8) (pc' := 13) rfl (hb hby d1_8) rfl (feq hc8).2 (by decide) (by decide) k) ?_
      refine own_step (B := s₁.setTop (mkF m 14 #[.val (.int p0), .val (.int p1), .val (.int p2), .val (.int p3)] [(.int p0)])) (fun t k => XS.iloadN X0.here hx rfl (hb hby d1_13) rfl k) ?_
      refine own_step (B := s₁.setTop (mkF m 15 #[.val (.int p0), .val (.int p1), .val (.int p2), .val (.int p3)] [(.int (2 : Int32)), (.int p0)])) (fun t k => XS.iconst X0.here hx rfl (hb hby d1_14) k) ?_
      by_cases hc15 : p0 = (2 : Int32)
      · skip
        refine own_step (B := s₁.setTop (mkF m 18 #[.val (.int p0), .val (.int p1), .val (.int p2), .val (.int p3)] [])) (fun t k => XS.icmpNo X0.here hx rfl (hb hby d1_15) rfl (teq hc15).2 k) ?_
        refine own_step (B := s₁.setTop (mkF m 19 #[.val (.int p0), .val (.int p1), .val (.int p2), .val (.int p3)] [(.int p3)])) (fun t k => XS.iloadN X0.here hx rfl (hb hby d1_18) rfl k) ?_
        exact own_retI X0 hx hlk Bd.returns (hb hby d1_19) (by decide) (by decide) (by exact ⟨_, rfl, N0, e0⟩)
      · skip
        refine own_step (B := s₁.setTop (mkF m 20 #[.val (.int p0), .val (.int p1), .val (.int p2), .val (.int p3)] [])) (fun t k => XS.icmpYes X0.here hx rfl (pc0 := 15) (pc' := 20) rfl (hb hby d1_15) rfl (feq hc15).2 (by decide) (by decide) k) ?_
        refine own_step (B := s₁.setTop (mkF m 21 #[.val (.int p0), .val (.int p1), .val (.int p2), .val (.int p3)] [(.int p1)])) (fun t k => XS.iloadN X0.here hx rfl (hb hby d1_20) rfl k) ?_
        refine own_step (B := s₁.setTop (mkF m 22 #[.val (.int p0), .val (.int p1), .val (.int p2), .val (.int p3)] [(.int (-1 : Int32)), (.int p1)])) (fun t k => XS.iconst X0.here hx rfl (hb hby d1_21) k) ?_
        refine own_step (B := s₁.setTop (mkF m 23 #[.val (.int p0), .val (.int p1), .val (.int p2), .val (.int p3)] [(.int (p1 ^^^ (-1 : Int32)))])) (fun t k => XS.ixor X0.here hx rfl (hb hby d1_22) rfl k) ?_
        exact own_retI X0 hx hlk Bd.returns (hb hby d1_23) (by decide) (by decide) (by exact ⟨_, rfl, N0, e0⟩)
theorem d3_0 : decode jdk_30_method_1_code 0 = .ok (.aload_n 0, 1) := by decide +kernel
theorem d3_1 : decode jdk_30_method_1_code 1 = .ok (.invokespecial 1, 3) := by decide +kernel
theorem d3_4 : decode jdk_30_method_1_code 4 = .ok (.return_, 1) := by decide +kernel
theorem pn_java_lang_Record : plainName "java/lang/Record" = true := by first | (simp [plainName, overriddenIn]; done) | decide +kernel
theorem ef_rm3 (m : MethodId) (x0 : Addr) : entryFrame m #[(.ref x0)] 1 = mkF m 0 #[.val (.ref x0)] [] := by first | (simp [entryFrame, mkF, argsToLocals, Value.category]; done) | rfl
def QQ_rm3 (Z : State) (b0 : Addr)  (h0 : Heap) (n0 : Nat) (v : Option Value) (h : Heap) (L : List Loc) : Prop := v = none ∧ Fr n0 L ∧ h = h0
set_option maxRecDepth 65536 in
set_option maxHeartbeats 40000000 in
theorem rm3 (l : Launch) (Z : State) (a0 : Array Value) (hw : ∀ d ∈ tables_1, d.before a0 Z = true) (ws : List Jvm.Cond) (b0 : Addr)  (h0 : Heap) (n0 : Nat) (Z0 : n0 ≤ h0.size)  :
    MetFree l (⟨"java/lang/Record", "<init>", "()V"⟩ : MethodName) (head1 (Jvm.Cond.code (⟨"java/lang/Record", "<init>", "()V"⟩ : MethodName) jdk_30_method_1_code 1 none :: ws) ({ frames := 1, cells := 0, slots := 0, locals := 12 } : Room)) (fun a U => a = #[(.ref b0)] ∧ Z.Warmed39 U.vm ∧ U.heap = h0) (fun _ _ _ _ _ => True) (fun _ U o U' => ∃ v L, o = .returned v ∧ (QQ_rm3 Z b0 h0 n0) v U'.heap L ∧ FrameEnd U o U' L ({ frames := 1, cells := 0, slots := 0, locals := 12 } : Room).cells ({ frames := 1, cells := 0, slots := 0, locals := 12 } : Room).slots) := by
  refine MetFree.of_bodySF (plainFor_of_name pn_java_lang_Record) hisR ?_
  intro p e s m args below meth c s₁ Bd hml0 hP hK
  obtain ⟨rfl, hZ, hh⟩ := hP
  have hx := Bd.exec
  have hby := Bd.bytes
  have hlk : meth.locks = false := BodyLoose.notSynchronized Bd
  have hml : c.maxLocals = 1 := hml0
  have hown : s.vm.findClass "java/lang/Record" = some m.cls := findClass_of_methodNamed Bd.named
  have hnm := (name_of_methodNamed Bd.named Bd.method).1
  have X0 : Stand p l e ({ frames := 1, cells := 0, slots := 0, locals := 12 } : Room) s m #[(.ref b0)] below meth c s₁ [] 0 0 := Stand.of_body Bd
  have e0 : s₁.heap = h0 := by rw [← hh, Bd.state]; rfl
  have N0 := Fr.nil n0
  show own_G p.tables e below s (QQ_rm3 Z b0 h0 n0) ({ frames := 1, cells := 0, slots := 0, locals := 12 } : Room).cells ({ frames := 1, cells := 0, slots := 0, locals := 12 } : Room).slots (s₁.setTop (entryFrame m #[(.ref b0)] 1))
  refine own_step (B := s₁.setTop (mkF m 0 #[.val (.ref b0)] [])) (fun t k => castTop (ef_rm3 m b0) k) ?_
  refine own_step (B := s₁.setTop (mkF m 1 #[.val (.ref b0)] [(.ref b0)])) (fun t k => XS.aloadN X0.here hx rfl (hb hby d3_0) rfl rfl k) ?_
  obtain ⟨T1, X1, e1, st1⟩ := initO X0 hx hZ hown (hw _ (List.mem_of_getElem? (i := 17) rfl)) (hw _ (List.mem_of_getElem? (i := 18) rfl)) (hw _ (List.mem_of_getElem? (i := 19) rfl)) e0 (g := (mkF m 1 #[.val (.ref b0)] [(.ref b0)])) rfl (by rw [hml]; rfl) rfl (hb hby d3_1) (by decide) (W := 0) (by show 2 * 0 + _ ≤ _; exact Nat.le_of_eq rfl) (by decide)
  refine own_step (B := T1.setTop (mkF m 4 #[.val (.ref b0)] [])) (fun t k => st1 t k) ?_
  exact own_retV X1 hx hlk Bd.returns (hb hby d3_4) (by decide) (by decide) (by exact ⟨rfl, N0, e1⟩)
theorem d2_0 : decode prog_64_method_1_code 0 = .ok (.aload_n 0, 1) := by decide +kernel
theorem d2_1 : decode prog_64_method_1_code 1 = .ok (.invokespecial 3, 3) := by decide +kernel
theorem d2_4 : decode prog_64_method_1_code 4 = .ok (.aload_n 0, 1) := by decide +kernel
theorem d2_5 : decode prog_64_method_1_code 5 = .ok (.lload_n 1, 1) := by decide +kernel
theorem d2_6 : decode prog_64_method_1_code 6 = .ok (.putfield 9, 3) := by decide +kernel
theorem d2_9 : decode prog_64_method_1_code 9 = .ok (.aload_n 0, 1) := by decide +kernel
theorem d2_10 : decode prog_64_method_1_code 10 = .ok (.iload_n 3, 1) := by decide +kernel
theorem d2_11 : decode prog_64_method_1_code 11 = .ok (.putfield 15, 3) := by decide +kernel
theorem d2_14 : decode prog_64_method_1_code 14 = .ok (.aload_n 0, 1) := by decide +kernel
theorem d2_15 : decode prog_64_method_1_code 15 = .ok (.iload 4, 2) := by decide +kernel
theorem d2_17 : decode prog_64_method_1_code 17 = .ok (.putfield 19, 3) := by decide +kernel
theorem d2_20 : decode prog_64_method_1_code 20 = .ok (.aload_n 0, 1) := by decide +kernel
theorem d2_21 : decode prog_64_method_1_code 21 = .ok (.iload 5, 2) := by decide +kernel
theorem d2_23 : decode prog_64_method_1_code 23 = .ok (.putfield 22, 3) := by decide +kernel
theorem d2_26 : decode prog_64_method_1_code 26 = .ok (.aload_n 0, 1) := by decide +kernel
theorem d2_27 : decode prog_64_method_1_code 27 = .ok (.aload 6, 2) := by decide +kernel
theorem d2_29 : decode prog_64_method_1_code 29 = .ok (.putfield 26, 3) := by decide +kernel
theorem d2_32 : decode prog_64_method_1_code 32 = .ok (.return_, 1) := by decide +kernel
theorem pn_com_example_tightrope_tightrope_history_Transaction : plainName "com/example/tightrope/tightrope/history/Transaction" = true := by first | (simp [plainName, overriddenIn]; done) | decide +kernel
theorem ef_rm2 (m : MethodId) (x0 : Addr) (x1 : Int64) (x2 : Int32) (x3 : Int32) (x4 : Int32) (x5 : Addr) : entryFrame m #[(.ref x0), (.long x1), (.int x2), (.int x3), (.int x4), (.ref x5)] 7 = mkF m 0 #[.val (.ref x0), .val (.long x1), .second, .val (.int x2), .val (.int x3), .val (.int x4), .val (.ref x5)] [] := by first | (simp [entryFrame, mkF, argsToLocals, Value.category]; done) | rfl
def QQ_rm2 (Z : State) (b0 : Addr) (q1 : Int64) (p2 : Int32) (p3 : Int32) (p4 : Int32) (sa : Addr)  (h0 : Heap) (n0 : Nat) (v : Option Value) (h : Heap) (L : List Loc) : Prop := v = none ∧ Fr n0 L ∧ Keep h0 h [b0] ∧ Fld Z h b0 "com/example/tightrope/tightrope/history/Transaction" "steps" "[I" (.ref sa)
set_option maxRecDepth 65536 in
set_option maxHeartbeats 40000000 in
theorem rm2 (l : Launch) (Z : State) (a0 : Array Value) (hw : ∀ d ∈ tables_1, d.before a0 Z = true) (ws : List Jvm.Cond) (b0 : Addr) (q1 : Int64) (p2 : Int32) (p3 : Int32) (p4 : Int32) (sa : Addr)  (h0 : Heap) (n0 : Nat) (Z0 : n0 ≤ h0.size) (E_b0 : Exa Z h0 b0 "com/example/tightrope/tightrope/history/Transaction") (g_b0 : n0 ≤ b0) (F_index_b0 : Fld Z h0 b0 "com/example/tightrope/tightrope/history/Transaction" "index" "J" (.long (0 : Int64))) (F_invoke_b0 : Fld Z h0 b0 "com/example/tightrope/tightrope/history/Transaction" "invoke" "I" (.int (0 : Int32))) (F_completion_b0 : Fld Z h0 b0 "com/example/tightrope/tightrope/history/Transaction" "completion" "I" (.int (0 : Int32))) (F_required_b0 : Fld Z h0 b0 "com/example/tightrope/tightrope/history/Transaction" "required" "Z" (.int (0 : Int32))) (F_steps_b0 : Fld Z h0 b0 "com/example/tightrope/tightrope/history/Transaction" "steps" "[I" .null) :
    MetFree l (⟨"com/example/tightrope/tightrope/history/Transaction", "<init>", "(JIIZ[I)V"⟩ : MethodName) (head1 (Jvm.Cond.code (⟨"com/example/tightrope/tightrope/history/Transaction", "<init>", "(JIIZ[I)V"⟩ : MethodName) prog_64_method_1_code 7 none :: ws) ({ frames := 2, cells := 0, slots := 0, locals := 40 } : Room)) (fun a U => a = #[(.ref b0), (.long q1), (.int p2), (.int p3), (.int p4), (.ref sa)] ∧ Z.Warmed39 U.vm ∧ U.heap = h0) (fun _ _ _ _ _ => True) (fun _ U o U' => ∃ v L, o = .returned v ∧ (QQ_rm2 Z b0 q1 p2 p3 p4 sa h0 n0) v U'.heap L ∧ FrameEnd U o U' L ({ frames := 2, cells := 0, slots := 0, locals := 40 } : Room).cells ({ frames := 2, cells := 0, slots := 0, locals := 40 } : Room).slots) := by
  refine MetFree.of_bodySF (plainFor_of_name pn_com_example_tightrope_tightrope_history_Transaction) hisR ?_
  intro p e s m args below meth c s₁ Bd hml0 hP hK
  obtain ⟨rfl, hZ, hh⟩ := hP
  have hx := Bd.exec
  have hby := Bd.bytes
  have hlk : meth.locks = false := BodyLoose.notSynchronized Bd
  have hml : c.maxLocals = 7 := hml0
  have hown : s.vm.findClass "com/example/tightrope/tightrope/history/Transaction" = some m.cls := findClass_of_methodNamed Bd.named
  have hnm := (name_of_methodNamed Bd.named Bd.method).1
  have X0 : Stand p l e ({ frames := 2, cells := 0, slots := 0, locals := 40 } : Room) s m #[(.ref b0), (.long q1), (.int p2), (.int p3), (.int p4), (.ref sa)] below meth c s₁ [] 0 0 := Stand.of_body Bd
  have e0 : s₁.heap = h0 := by rw [← hh, Bd.state]; rfl
  have N0 := Fr.nil n0
  show own_G p.tables e below s (QQ_rm2 Z b0 q1 p2 p3 p4 sa h0 n0) ({ frames := 2, cells := 0, slots := 0, locals := 40 } : Room).cells ({ frames := 2, cells := 0, slots := 0, locals := 40 } : Room).slots (s₁.setTop (entryFrame m #[(.ref b0), (.long q1), (.int p2), (.int p3), (.int p4), (.ref sa)] 7))
  refine own_step (B := s₁.setTop (mkF m 0 #[.val (.ref b0), .val (.long q1), .second, .val (.int p2), .val (.int p3), .val (.int p4), .val (.ref sa)] [])) (fun t k => castTop (ef_rm2 m b0 q1 p2 p3 p4 sa) k) ?_
  have K0 := Keep.refl h0 [b0]
  refine own_step (B := s₁.setTop (mkF m 1 #[.val (.ref b0), .val (.long q1), .second, .val (.int p2), .val (.int p3), .val (.int p4), .val (.ref sa)] [(.ref b0)])) (fun t k => XS.aloadN X0.here hx rfl (hb hby d2_0) rfl rfl k) ?_
  obtain ⟨_, _, ⟨T1, L1, k1, n1⟩, -, X1, ⟨Lc1, hQ1, l1, y1, z1⟩, st1⟩ := X0.specialBack hx (y := (⟨"java/lang/Record", "<init>", "()V"⟩ : MethodName)) rfl hown (mvT hZ (hw _ (List.mem_of_getElem? (i := 12) rfl))) (mvT hZ (hw _ (List.mem_of_getElem? (i := 13) rfl))) (mvT hZ (hw _ (List.mem_of_getElem? (i := 16) rfl))) (by decide) (backOf (W := 0) (rm3 l Z a0 hw [] b0  h0 n0 Z0 ) hZ (hw _ (List.mem_of_getElem? (i := 16) rfl)) (hw _ (List.mem_of_getElem? (i := 15) rfl)) (by decide) (by decide)) (g := (mkF m 1 #[.val (.ref b0), .val (.long q1), .second, .val (.int p2), .val (.int p3), .val (.int p4), .val (.ref sa)] [(.ref b0)])) rfl (by rw [hml]; rfl) (Steps.refl _) (a := b0) (argsL := []) (rest := []) (lenOf pd_0 rfl) rfl (by show 2 * 0 + _ ≤ _; exact Nat.le_of_eq rfl) (hb hby d2_1) (fun _ _ => ⟨rfl, e0, (by decide : 0 + 0 ≤ _), (by decide : 0 + 0 ≤ _)⟩)
  dsimp only [Pt.U, Pt.locs, Pt.cells, Pt.slots] at X1 l1 y1 z1 st1 hQ1
  subst l1 y1 z1
  obtain ⟨rfl, N1q, e1⟩ := hQ1
  have N0 := Fr.app N0 N1q
  refine own_step (B := T1.setTop (mkF m 4 #[.val (.ref b0), .val (.long q1), .second, .val (.int p2), .val (.int p3), .val (.int p4), .val (.ref sa)] [])) (fun t k => st1.trans k) ?_
  refine own_step (B := T1.setTop (mkF m 5 #[.val (.ref b0), .val (.long q1), .second, .val (.int p2), .val (.int p3), .val (.int p4), .val (.ref sa)] [(.ref b0)])) (fun t k => XS.aloadN X1.here hx rfl (hb hby d2_4) rfl rfl k) ?_
  refine own_step (B := T1.setTop (mkF m 6 #[.val (.ref b0), .val (.long q1), .second, .val (.int p2), .val (.int p3), .val (.int p4), .val (.ref sa)] [(.long q1), (.ref b0)])) (fun t k => XS.lloadN X1.here hx rfl (hb hby d2_5) rfl k) ?_
  obtain ⟨T2, h2, X2, e2, W2, st2⟩ := putF X1 hx hZ hown (host := "") (Or.inl (hw _ (List.mem_of_getElem? (i := 20) rfl))) Via.refl e1 F_index_b0 E_b0 (Or.inr ⟨(hw _ (List.mem_of_getElem? (i := 21) rfl)), rfl, hnm⟩) (hw _ (List.mem_of_getElem? (i := 6) rfl)) (ty := .long) (by decide) rfl rfl (g := (mkF m 6 #[.val (.ref b0), .val (.long q1), .second, .val (.int p2), .val (.int p3), .val (.int p4), .val (.ref sa)] [(.long q1), (.ref b0)])) rfl rfl (hb hby d2_6)
  have E_b0 := E_b0.wr W2
  have F_index_b0 := F_index_b0.same W2
  have F_invoke_b0 := F_invoke_b0.other W2 (Or.inr (slot_ne (Or.inr (hw _ (List.mem_of_getElem? (i := 23) rfl))) (Or.inr (hw _ (List.mem_of_getElem? (i := 21) rfl))) (by decide) (t := .int) (t' := .long) (by decide) (by decide)))
  have F_completion_b0 := F_completion_b0.other W2 (Or.inr (slot_ne (Or.inr (hw _ (List.mem_of_getElem? (i := 25) rfl))) (Or.inr (hw _ (List.mem_of_getElem? (i := 21) rfl))) (by decide) (t := .int) (t' := .long) (by decide) (by decide)))
  have F_required_b0 := F_required_b0.other W2 (Or.inr (slot_ne (Or.inr (hw _ (List.mem_of_getElem? (i := 27) rfl))) (Or.inr (hw _ (List.mem_of_getElem? (i := 21) rfl))) (by decide) (t := .boolean) (t' := .long) (by decide) (by decide)))
  have F_steps_b0 := F_steps_b0.other W2 (Or.inr (slot_ne (Or.inr (hw _ (List.mem_of_getElem? (i := 29) rfl))) (Or.inr (hw _ (List.mem_of_getElem? (i := 21) rfl))) (by decide) (t := (.array .int)) (t' := .long) (by decide) (by decide)))
  have Z0 := Nat.le_trans Z0 (Keep.of_wr W2).1
  have K0 := K0.wr W2 (Or.inl (List.mem_of_getElem? (i := 0) rfl))
  have N0 := Fr.snoc X2 N0 g_b0
  refine own_step (B := T2.setTop (mkF m 9 #[.val (.ref b0), .val (.long q1), .second, .val (.int p2), .val (.int p3), .val (.int p4), .val (.ref sa)] [])) (fun t k => st2 t k) ?_
  refine own_step (B := T2.setTop (mkF m 10 #[.val (.ref b0), .val (.long q1), .second, .val (.int p2), .val (.int p3), .val (.int p4), .val (.ref sa)] [(.ref b0)])) (fun t k => XS.aloadN X2.here hx rfl (hb hby d2_9) rfl rfl k) ?_
  refine own_step (B := T2.setTop (mkF m 11 #[.val (.ref b0), .val (.long q1), .second, .val (.int p2), .val (.int p3), .val (.int p4), .val (.ref sa)] [(.int p2), (.ref b0)])) (fun t k => XS.iloadN X2.here hx rfl (hb hby d2_10) rfl k) ?_
  obtain ⟨T3, h3, X3, e3, W3, st3⟩ := putF X2 hx hZ hown (host := "") (Or.inl (hw _ (List.mem_of_getElem? (i := 22) rfl))) Via.refl e2 F_invoke_b0 E_b0 (Or.inr ⟨(hw _ (List.mem_of_getElem? (i := 23) rfl)), rfl, hnm⟩) (hw _ (List.mem_of_getElem? (i := 6) rfl)) (ty := .int) (by decide) rfl rfl (g := (mkF m 11 #[.val (.ref b0), .val (.long q1), .second, .val (.int p2), .val (.int p3), .val (.int p4), .val (.ref sa)] [(.int p2), (.ref b0)])) rfl rfl (hb hby d2_11)
  have E_b0 := E_b0.wr W3
  have F_index_b0 := F_index_b0.other W3 (Or.inr (slot_ne (Or.inr (hw _ (List.mem_of_getElem? (i := 21) rfl))) (Or.inr (hw _ (List.mem_of_getElem? (i := 23) rfl))) (by decide) (t := .long) (t' := .int) (by decide) (by decide)))
  have F_invoke_b0 := F_invoke_b0.same W3
  have F_completion_b0 := F_completion_b0.other W3 (Or.inr (slot_ne (Or.inr (hw _ (List.mem_of_getElem? (i := 25) rfl))) (Or.inr (hw _ (List.mem_of_getElem? (i := 23) rfl))) (by decide) (t := .int) (t' := .int) (by decide) (by decide)))
  have F_required_b0 := F_required_b0.other W3 (Or.inr (slot_ne (Or.inr (hw _ (List.mem_of_getElem? (i := 27) rfl))) (Or.inr (hw _ (List.mem_of_getElem? (i := 23) rfl))) (by decide) (t := .boolean) (t' := .int) (by decide) (by decide)))
  have F_steps_b0 := F_steps_b0.other W3 (Or.inr (slot_ne (Or.inr (hw _ (List.mem_of_getElem? (i := 29) rfl))) (Or.inr (hw _ (List.mem_of_getElem? (i := 23) rfl))) (by decide) (t := (.array .int)) (t' := .int) (by decide) (by decide)))
  have Z0 := Nat.le_trans Z0 (Keep.of_wr W3).1
  have K0 := K0.wr W3 (Or.inl (List.mem_of_getElem? (i := 0) rfl))
  have N0 := Fr.snoc X3 N0 g_b0
  refine own_step (B := T3.setTop (mkF m 14 #[.val (.ref b0), .val (.long q1), .second, .val (.int p2), .val (.int p3), .val (.int p4), .val (.ref sa)] [])) (fun t k => st3 t k) ?_
  refine own_step (B := T3.setTop (mkF m 15 #[.val (.ref b0), .val (.long q1), .second, .val (.int p2), .val (.int p3), .val (.int p4), .val (.ref sa)] [(.ref b0)])) (fun t k => XS.aloadN X3.here hx rfl (hb hby d2_14) rfl rfl k) ?_
  refine own_step (B := T3.setTop (mkF m 17 #[.val (.ref b0), .val (.long q1), .second, .val (.int p2), .val (.int p3), .val (.int p4), .val (.ref sa)] [(.int p3), (.ref b0)])) (fun t k => XS.iload X3.here hx rfl (hb hby d2_15) rfl k) ?_
  obtain ⟨T4, h4, X4, e4, W4, st4⟩ := putF X3 hx hZ hown (host := "") (Or.inl (hw _ (List.mem_of_getElem? (i := 24) rfl))) Via.refl e3 F_completion_b0 E_b0 (Or.inr ⟨(hw _ (List.mem_of_getElem? (i := 25) rfl)), rfl, hnm⟩) (hw _ (List.mem_of_getElem? (i := 6) rfl)) (ty := .int) (by decide) rfl rfl (g := (mkF m 17 #[.val (.ref b0), .val (.long q1), .second, .val (.int p2), .val (.int p3), .val (.int p4), .val (.ref sa)] [(.int p3), (.ref b0)])) rfl rfl (hb hby d2_17)
  have E_b0 := E_b0.wr W4
  have F_index_b0 := F_index_b0.other W4 (Or.inr (slot_ne (Or.inr (hw _ (List.mem_of_getElem? (i := 21) rfl))) (Or.inr (hw _ (List.mem_of_getElem? (i := 25) rfl))) (by decide) (t := .long) (t' := .int) (by decide) (by decide)))
  have F_invoke_b0 := F_invoke_b0.other W4 (Or.inr (slot_ne (Or.inr (hw _ (List.mem_of_getElem? (i := 23) rfl))) (Or.inr (hw _ (List.mem_of_getElem? (i := 25) rfl))) (by decide) (t := .int) (t' := .int) (by decide) (by decide)))
  have F_completion_b0 := F_completion_b0.same W4
  have F_required_b0 := F_required_b0.other W4 (Or.inr (slot_ne (Or.inr (hw _ (List.mem_of_getElem? (i := 27) rfl))) (Or.inr (hw _ (List.mem_of_getElem? (i := 25) rfl))) (by decide) (t := .boolean) (t' := .int) (by decide) (by decide)))
  have F_steps_b0 := F_steps_b0.other W4 (Or.inr (slot_ne (Or.inr (hw _ (List.mem_of_getElem? (i := 29) rfl))) (Or.inr (hw _ (List.mem_of_getElem? (i := 25) rfl))) (by decide) (t := (.array .int)) (t' := .int) (by decide) (by decide)))
  have Z0 := Nat.le_trans Z0 (Keep.of_wr W4).1
  have K0 := K0.wr W4 (Or.inl (List.mem_of_getElem? (i := 0) rfl))
  have N0 := Fr.snoc X4 N0 g_b0
  refine own_step (B := T4.setTop (mkF m 20 #[.val (.ref b0), .val (.long q1), .second, .val (.int p2), .val (.int p3), .val (.int p4), .val (.ref sa)] [])) (fun t k => st4 t k) ?_
  refine own_step (B := T4.setTop (mkF m 21 #[.val (.ref b0), .val (.long q1), .second, .val (.int p2), .val (.int p3), .val (.int p4), .val (.ref sa)] [(.ref b0)])) (fun t k => XS.aloadN X4.here hx rfl (hb hby d2_20) rfl rfl k) ?_
  refine own_step (B := T4.setTop (mkF m 23 #[.val (.ref b0), .val (.long q1), .second, .val (.int p2), .val (.int p3), .val (.int p4), .val (.ref sa)] [(.int p4), (.ref b0)])) (fun t k => XS.iload X4.here hx rfl (hb hby d2_21) rfl k) ?_
  obtain ⟨T5, h5, X5, e5, W5, st5⟩ := putFN X4 hx hZ hown (hw _ (List.mem_of_getElem? (i := 26) rfl)) Via.refl e4 F_required_b0 E_b0 (Or.inr ⟨(hw _ (List.mem_of_getElem? (i := 27) rfl)), rfl, hnm⟩) (hw _ (List.mem_of_getElem? (i := 6) rfl)) (ty := .boolean) (v' := (.int (nar .boolean p4))) (by decide) rfl (fits_nar_bool _) (g := (mkF m 23 #[.val (.ref b0), .val (.long q1), .second, .val (.int p2), .val (.int p3), .val (.int p4), .val (.ref sa)] [(.int p4), (.ref b0)])) rfl rfl (hb hby d2_23)
  have E_b0 := E_b0.wr W5
  have F_index_b0 := F_index_b0.other W5 (Or.inr (slot_ne (Or.inr (hw _ (List.mem_of_getElem? (i := 21) rfl))) (Or.inr (hw _ (List.mem_of_getElem? (i := 27) rfl))) (by decide) (t := .long) (t' := .boolean) (by decide) (by decide)))
  have F_invoke_b0 := F_invoke_b0.other W5 (Or.inr (slot_ne (Or.inr (hw _ (List.mem_of_getElem? (i := 23) rfl))) (Or.inr (hw _ (List.mem_of_getElem? (i := 27) rfl))) (by decide) (t := .int) (t' := .boolean) (by decide) (by decide)))
  have F_completion_b0 := F_completion_b0.other W5 (Or.inr (slot_ne (Or.inr (hw _ (List.mem_of_getElem? (i := 25) rfl))) (Or.inr (hw _ (List.mem_of_getElem? (i := 27) rfl))) (by decide) (t := .int) (t' := .boolean) (by decide) (by decide)))
  have F_required_b0 := F_required_b0.same W5
  have F_steps_b0 := F_steps_b0.other W5 (Or.inr (slot_ne (Or.inr (hw _ (List.mem_of_getElem? (i := 29) rfl))) (Or.inr (hw _ (List.mem_of_getElem? (i := 27) rfl))) (by decide) (t := (.array .int)) (t' := .boolean) (by decide) (by decide)))
  have Z0 := Nat.le_trans Z0 (Keep.of_wr W5).1
  have K0 := K0.wr W5 (Or.inl (List.mem_of_getElem? (i := 0) rfl))
  have N0 := Fr.snoc X5 N0 g_b0
  refine own_step (B := T5.setTop (mkF m 26 #[.val (.ref b0), .val (.long q1), .second, .val (.int p2), .val (.int p3), .val (.int p4), .val (.ref sa)] [])) (fun t k => st5 t k) ?_
  refine own_step (B := T5.setTop (mkF m 27 #[.val (.ref b0), .val (.long q1), .second, .val (.int p2), .val (.int p3), .val (.int p4), .val (.ref sa)] [(.ref b0)])) (fun t k => XS.aloadN X5.here hx rfl (hb hby d2_26) rfl rfl k) ?_
  refine own_step (B := T5.setTop (mkF m 29 #[.val (.ref b0), .val (.long q1), .second, .val (.int p2), .val (.int p3), .val (.int p4), .val (.ref sa)] [(.ref sa), (.ref b0)])) (fun t k => XS.aload X5.here hx rfl (hb hby d2_27) rfl rfl k) ?_
  obtain ⟨T6, h6, X6, e6, W6, st6⟩ := putF X5 hx hZ hown (host := "") (Or.inl (hw _ (List.mem_of_getElem? (i := 28) rfl))) Via.refl e5 F_steps_b0 E_b0 (Or.inr ⟨(hw _ (List.mem_of_getElem? (i := 29) rfl)), rfl, hnm⟩) (hw _ (List.mem_of_getElem? (i := 6) rfl)) (ty := (.array .int)) (by decide) rfl rfl (g := (mkF m 29 #[.val (.ref b0), .val (.long q1), .second, .val (.int p2), .val (.int p3), .val (.int p4), .val (.ref sa)] [(.ref sa), (.ref b0)])) rfl rfl (hb hby d2_29)
  have E_b0 := E_b0.wr W6
  have F_index_b0 := F_index_b0.other W6 (Or.inr (slot_ne (Or.inr (hw _ (List.mem_of_getElem? (i := 21) rfl))) (Or.inr (hw _ (List.mem_of_getElem? (i := 29) rfl))) (by decide) (t := .long) (t' := (.array .int)) (by decide) (by decide)))
  have F_invoke_b0 := F_invoke_b0.other W6 (Or.inr (slot_ne (Or.inr (hw _ (List.mem_of_getElem? (i := 23) rfl))) (Or.inr (hw _ (List.mem_of_getElem? (i := 29) rfl))) (by decide) (t := .int) (t' := (.array .int)) (by decide) (by decide)))
  have F_completion_b0 := F_completion_b0.other W6 (Or.inr (slot_ne (Or.inr (hw _ (List.mem_of_getElem? (i := 25) rfl))) (Or.inr (hw _ (List.mem_of_getElem? (i := 29) rfl))) (by decide) (t := .int) (t' := (.array .int)) (by decide) (by decide)))
  have F_required_b0 := F_required_b0.other W6 (Or.inr (slot_ne (Or.inr (hw _ (List.mem_of_getElem? (i := 27) rfl))) (Or.inr (hw _ (List.mem_of_getElem? (i := 29) rfl))) (by decide) (t := .boolean) (t' := (.array .int)) (by decide) (by decide)))
  have F_steps_b0 := F_steps_b0.same W6
  have Z0 := Nat.le_trans Z0 (Keep.of_wr W6).1
  have K0 := K0.wr W6 (Or.inl (List.mem_of_getElem? (i := 0) rfl))
  have N0 := Fr.snoc X6 N0 g_b0
  refine own_step (B := T6.setTop (mkF m 32 #[.val (.ref b0), .val (.long q1), .second, .val (.int p2), .val (.int p3), .val (.int p4), .val (.ref sa)] [])) (fun t k => st6 t k) ?_
  exact own_retV X6 hx hlk Bd.returns (hb hby d2_32) (by decide) (by decide) (by rw [e6]; exact ⟨rfl, N0, K0, F_steps_b0⟩)
theorem d5_0 : decode prog_64_method_4_code 0 = .ok (.iconst 0, 1) := by decide +kernel
theorem d5_1 : decode prog_64_method_4_code 1 = .ok (.istore_n 2, 1) := by decide +kernel
theorem d5_2 : decode prog_64_method_4_code 2 = .ok (.iload_n 2, 1) := by decide +kernel
theorem d5_3 : decode prog_64_method_4_code 3 = .ok (.iload_n 1, 1) := by decide +kernel
theorem d5_4 : decode prog_64_method_4_code 4 = .ok (.if_icmp .ge 40, 3) := by decide +kernel
theorem d5_44 : decode prog_64_method_4_code 44 = .ok (.iconst 1, 1) := by decide +kernel
theorem d5_45 : decode prog_64_method_4_code 45 = .ok (.ireturn, 1) := by decide +kernel
theorem ef_rmr0 (m : MethodId) (x0 : Addr) (x1 : Int32) : entryFrame m #[(.ref x0), (.int x1)] 3 = mkF m 0 #[.val (.ref x0), .val (.int x1), .unset] [] := by first | (simp [entryFrame, mkF, argsToLocals, Value.category]; done) | rfl
def QQ_rmr0 (Z : State) (b0 : Addr) (sa : Addr) (kk : ClassId) (w0 w1 w2 w3 w4 w5 w6 w7 w8 w9 w10 w11 : Int32) (h0 : Heap) (n0 : Nat) (v : Option Value) (h : Heap) (L : List Loc) : Prop := v = some (.int (1 : Int32)) ∧ Fr n0 L ∧ h = h0
set_option maxRecDepth 65536 in
set_option maxHeartbeats 40000000 in
theorem rmr0 (l : Launch) (Z : State) (a0 : Array Value) (hw : ∀ d ∈ tables_1, d.before a0 Z = true) (ws : List Jvm.Cond) (b0 : Addr) (sa : Addr) (kk : ClassId) (w0 w1 w2 w3 w4 w5 w6 w7 w8 w9 w10 w11 : Int32) (h0 : Heap) (n0 : Nat) (Z0 : n0 ≤ h0.size) (F_steps_b0 : Fld Z h0 b0 "com/example/tightrope/tightrope/history/Transaction" "steps" "[I" (.ref sa)) (V_sa : Arv Z h0 sa kk .int (12 : Int32) [(.int w0), (.int w1), (.int w2), (.int w3), (.int w4), (.int w5), (.int w6), (.int w7), (.int w8), (.int w9), (.int w10), (.int w11)] (.int (0 : Int32))) :
    MetFree l (⟨"com/example/tightrope/tightrope/history/Transaction", "readsFromOutside", "(I)Z"⟩ : MethodName) (head1 (Jvm.Cond.code (⟨"com/example/tightrope/tightrope/history/Transaction", "readsFromOutside", "(I)Z"⟩ : MethodName) prog_64_method_4_code 3 (some .boolean) :: ws) ({ frames := 0, cells := 0, slots := 0, locals := 0 } : Room)) (fun a U => a = #[(.ref b0), (.int (0 : Int32))] ∧ Z.Warmed39 U.vm ∧ U.heap = h0) (fun _ _ _ _ _ => True) (fun _ U o U' => ∃ v L, o = .returned v ∧ (QQ_rmr0 Z b0 sa kk w0 w1 w2 w3 w4 w5 w6 w7 w8 w9 w10 w11 h0 n0) v U'.heap L ∧ FrameEnd U o U' L ({ frames := 0, cells := 0, slots := 0, locals := 0 } : Room).cells ({ frames := 0, cells := 0, slots := 0, locals := 0 } : Room).slots) := by
  refine MetFree.of_bodySF (plainFor_of_name pn_com_example_tightrope_tightrope_history_Transaction) hisR ?_
  intro p e s m args below meth c s₁ Bd hml0 hP hK
  obtain ⟨rfl, hZ, hh⟩ := hP
  have hx := Bd.exec
  have hby := Bd.bytes
  have hlk : meth.locks = false := BodyLoose.notSynchronized Bd
  have hml : c.maxLocals = 3 := hml0
  have hown : s.vm.findClass "com/example/tightrope/tightrope/history/Transaction" = some m.cls := findClass_of_methodNamed Bd.named
  have hnm := (name_of_methodNamed Bd.named Bd.method).1
  have X0 : Stand p l e ({ frames := 0, cells := 0, slots := 0, locals := 0 } : Room) s m #[(.ref b0), (.int (0 : Int32))] below meth c s₁ [] 0 0 := Stand.of_body Bd
  have e0 : s₁.heap = h0 := by rw [← hh, Bd.state]; rfl
  have N0 := Fr.nil n0
  show own_G p.tables e below s (QQ_rmr0 Z b0 sa kk w0 w1 w2 w3 w4 w5 w6 w7 w8 w9 w10 w11 h0 n0) ({ frames := 0, cells := 0, slots := 0, locals := 0 } : Room).cells ({ frames := 0, cells := 0, slots := 0, locals := 0 } : Room).slots (s₁.setTop (entryFrame m #[(.ref b0), (.int (0 : Int32))] 3))
  refine own_step (B := s₁.setTop (mkF m 0 #[.val (.ref b0), .val (.int (0 : Int32)), .unset] [])) (fun t k => castTop (ef_rmr0 m b0 (0 : Int32)) k) ?_
  refine own_step (B := s₁.setTop (mkF m 1 #[.val (.ref b0), .val (.int (0 : Int32)), .unset] [(.int (0 : Int32))])) (fun t k => XS.iconst X0.here hx rfl (hb hby d5_0) k) ?_
  refine own_step (B := s₁.setTop (mkF m 2 #[.val (.ref b0), .val (.int (0 : Int32)), .val (.int (0 : Int32))] [])) (fun t k => XS.istoreN X0.here hx rfl (hb hby d5_1) rfl (l' := #[.val (.ref b0), .val (.int (0 : Int32)), .val (.int (0 : Int32))]) rfl k) ?_
  refine own_step (B := s₁.setTop (mkF m 3 #[.val (.ref b0), .val (.int (0 : Int32)), .val (.int (0 : Int32))] [(.int (0 : Int32))])) (fun t k => XS.iloadN X0.here hx rfl (hb hby d5_2) rfl k) ?_
  refine own_step (B := s₁.setTop (mkF m 4 #[.val (.ref b0), .val (.int (0 : Int32)), .val (.int (0 : Int32))] [(.int (0 : Int32)), (.int (0 : Int32))])) (fun t k => XS.iloadN X0.here hx rfl (hb hby d5_3) rfl k) ?_
  refine own_step (B := s₁.setTop (mkF m 44 #[.val (.ref b0), .val (.int (0 : Int32)), .val (.int (0 : Int32))] [])) (fun t k => XS.icmpYes X0.here hx rfl (pc0 := 4) (pc' := 44) rfl (hb hby d5_4) rfl (flt (by decide)).2.1 (by decide) (by decide) k) ?_
  refine own_step (B := s₁.setTop (mkF m 45 #[.val (.ref b0), .val (.int (0 : Int32)), .val (.int (0 : Int32))] [(.int (1 : Int32))])) (fun t k => XS.iconst X0.here hx rfl (hb hby d5_44) k) ?_
  exact own_retN X0 hx hlk (t := .boolean) Bd.returns (by simp) (hb hby d5_45) (by decide) (by decide) (by have hh : (1 : Int32) = (1 : Int32) := (by simp [own_w]); exact ⟨by rw [hh]; rfl, N0, e0⟩)
theorem d5_7 : decode prog_64_method_4_code 7 = .ok (.aload_n 0, 1) := by decide +kernel
theorem d5_8 : decode prog_64_method_4_code 8 = .ok (.getfield 26, 3) := by decide +kernel
theorem d5_11 : decode prog_64_method_4_code 11 = .ok (.iload_n 2, 1) := by decide +kernel
theorem d5_12 : decode prog_64_method_4_code 12 = .ok (.iaload, 1) := by decide +kernel
theorem d5_13 : decode prog_64_method_4_code 13 = .ok (.iconst 1, 1) := by decide +kernel
theorem d5_14 : decode prog_64_method_4_code 14 = .ok (.if_icmp .ne 24, 3) := by decide +kernel
theorem d5_17 : decode prog_64_method_4_code 17 = .ok (.aload_n 0, 1) := by decide +kernel
theorem d5_18 : decode prog_64_method_4_code 18 = .ok (.getfield 26, 3) := by decide +kernel
theorem d5_21 : decode prog_64_method_4_code 21 = .ok (.iload_n 2, 1) := by decide +kernel
theorem d5_22 : decode prog_64_method_4_code 22 = .ok (.iconst 1, 1) := by decide +kernel
theorem d5_23 : decode prog_64_method_4_code 23 = .ok (.iadd, 1) := by decide +kernel
theorem d5_24 : decode prog_64_method_4_code 24 = .ok (.iaload, 1) := by decide +kernel
theorem d5_25 : decode prog_64_method_4_code 25 = .ok (.aload_n 0, 1) := by decide +kernel
theorem d5_26 : decode prog_64_method_4_code 26 = .ok (.getfield 26, 3) := by decide +kernel
theorem d5_29 : decode prog_64_method_4_code 29 = .ok (.iload_n 1, 1) := by decide +kernel
theorem d5_30 : decode prog_64_method_4_code 30 = .ok (.iconst 1, 1) := by decide +kernel
theorem d5_31 : decode prog_64_method_4_code 31 = .ok (.iadd, 1) := by decide +kernel
theorem d5_32 : decode prog_64_method_4_code 32 = .ok (.iaload, 1) := by decide +kernel
theorem d5_33 : decode prog_64_method_4_code 33 = .ok (.if_icmp .ne 5, 3) := by decide +kernel
theorem d5_36 : decode prog_64_method_4_code 36 = .ok (.iconst 0, 1) := by decide +kernel
theorem d5_37 : decode prog_64_method_4_code 37 = .ok (.ireturn, 1) := by decide +kernel
theorem d5_38 : decode prog_64_method_4_code 38 = .ok (.iinc 2 3, 3) := by decide +kernel
theorem d5_41 : decode prog_64_method_4_code 41 = .ok (.goto (-39), 3) := by decide +kernel
theorem ef_rmr1 (m : MethodId) (x0 : Addr) (x1 : Int32) : entryFrame m #[(.ref x0), (.int x1)] 3 = mkF m 0 #[.val (.ref x0), .val (.int x1), .unset] [] := by first | (simp [entryFrame, mkF, argsToLocals, Value.category]; done) | rfl
def QQ_rmr1 (Z : State) (b0 : Addr) (sa : Addr) (kk : ClassId) (w0 w1 w2 w3 w4 w5 w6 w7 w8 w9 w10 w11 : Int32) (h0 : Heap) (n0 : Nat) (v : Option Value) (h : Heap) (L : List Loc) : Prop := v = some (.int (own_ex1 (own_w w0 w1 w4))) ∧ Fr n0 L ∧ h = h0
set_option maxRecDepth 65536 in
set_option maxHeartbeats 40000000 in
theorem rmr1 (l : Launch) (Z : State) (a0 : Array Value) (hw : ∀ d ∈ tables_1, d.before a0 Z = true) (ws : List Jvm.Cond) (b0 : Addr) (sa : Addr) (kk : ClassId) (w0 w1 w2 w3 w4 w5 w6 w7 w8 w9 w10 w11 : Int32) (h0 : Heap) (n0 : Nat) (Z0 : n0 ≤ h0.size) (F_steps_b0 : Fld Z h0 b0 "com/example/tightrope/tightrope/history/Transaction" "steps" "[I" (.ref sa)) (V_sa : Arv Z h0 sa kk .int (12 : Int32) [(.int w0), (.int w1), (.int w2), (.int w3), (.int w4), (.int w5), (.int w6), (.int w7), (.int w8), (.int w9), (.int w10), (.int w11)] (.int (0 : Int32))) :
    MetFree l (⟨"com/example/tightrope/tightrope/history/Transaction", "readsFromOutside", "(I)Z"⟩ : MethodName) (head1 (Jvm.Cond.code (⟨"com/example/tightrope/tightrope/history/Transaction", "readsFromOutside", "(I)Z"⟩ : MethodName) prog_64_method_4_code 3 (some .boolean) :: ws) ({ frames := 0, cells := 0, slots := 0, locals := 0 } : Room)) (fun a U => a = #[(.ref b0), (.int (3 : Int32))] ∧ Z.Warmed39 U.vm ∧ U.heap = h0) (fun _ _ _ _ _ => True) (fun _ U o U' => ∃ v L, o = .returned v ∧ (QQ_rmr1 Z b0 sa kk w0 w1 w2 w3 w4 w5 w6 w7 w8 w9 w10 w11 h0 n0) v U'.heap L ∧ FrameEnd U o U' L ({ frames := 0, cells := 0, slots := 0, locals := 0 } : Room).cells ({ frames := 0, cells := 0, slots := 0, locals := 0 } : Room).slots) := by
  refine MetFree.of_bodySF (plainFor_of_name pn_com_example_tightrope_tightrope_history_Transaction) hisR ?_
  intro p e s m args below meth c s₁ Bd hml0 hP hK
  obtain ⟨rfl, hZ, hh⟩ := hP
  have hx := Bd.exec
  have hby := Bd.bytes
  have hlk : meth.locks = false := BodyLoose.notSynchronized Bd
  have hml : c.maxLocals = 3 := hml0
  have hown : s.vm.findClass "com/example/tightrope/tightrope/history/Transaction" = some m.cls := findClass_of_methodNamed Bd.named
  have hnm := (name_of_methodNamed Bd.named Bd.method).1
  have X0 : Stand p l e ({ frames := 0, cells := 0, slots := 0, locals := 0 } : Room) s m #[(.ref b0), (.int (3 : Int32))] below meth c s₁ [] 0 0 := Stand.of_body Bd
  have e0 : s₁.heap = h0 := by rw [← hh, Bd.state]; rfl
  have N0 := Fr.nil n0
  show own_G p.tables e below s (QQ_rmr1 Z b0 sa kk w0 w1 w2 w3 w4 w5 w6 w7 w8 w9 w10 w11 h0 n0) ({ frames := 0, cells := 0, slots := 0, locals := 0 } : Room).cells ({ frames := 0, cells := 0, slots := 0, locals := 0 } : Room).slots (s₁.setTop (entryFrame m #[(.ref b0), (.int (3 : Int32))] 3))
  refine own_step (B := s₁.setTop (mkF m 0 #[.val (.ref b0), .val (.int (3 : Int32)), .unset] [])) (fun t k => castTop (ef_rmr1 m b0 (3 : Int32)) k) ?_
  refine own_step (B := s₁.setTop (mkF m 1 #[.val (.ref b0), .val (.int (3 : Int32)), .unset] [(.int (0 : Int32))])) (fun t k => XS.iconst X0.here hx rfl (hb hby d5_0) k) ?_
  refine own_step (B := s₁.setTop (mkF m 2 #[.val (.ref b0), .val (.int (3 : Int32)), .val (.int (0 : Int32))] [])) (fun t k => XS.istoreN X0.here hx rfl (hb hby d5_1) rfl (l' := #[.val (.ref b0), .val (.int (3 : Int32)), .val (.int (0 : Int32))]) rfl k) ?_
  refine own_step (B := s₁.setTop (mkF m 3 #[.val (.ref b0), .val (.int (3 : Int32)), .val (.int (0 : Int32))] [(.int (0 : Int32))])) (fun t k => XS.iloadN X0.here hx rfl (hb hby d5_2) rfl k) ?_
  refine own_step (B := s₁.setTop (mkF m 4 #[.val (.ref b0), .val (.int (3 : Int32)), .val (.int (0 : Int32))] [(.int (3 : Int32)), (.int (0 : Int32))])) (fun t k => XS.iloadN X0.here hx rfl (hb hby d5_3) rfl k) ?_
  refine own_step (B := s₁.setTop (mkF m 7 #[.val (.ref b0), .val (.int (3 : Int32)), .val (.int (0 : Int32))] [])) (fun t k => XS.icmpNo X0.here hx rfl (hb hby d5_4) rfl (tlt (by decide)).2.1 k) ?_
  refine own_step (B := s₁.setTop (mkF m 8 #[.val (.ref b0), .val (.int (3 : Int32)), .val (.int (0 : Int32))] [(.ref b0)])) (fun t k => XS.aloadN X0.here hx rfl (hb hby d5_7) rfl rfl k) ?_
  obtain ⟨T1, X1, e1, st1⟩ := getF X0 hx hZ hown (host := "") (Or.inl (hw _ (List.mem_of_getElem? (i := 28) rfl))) Via.refl e0 F_steps_b0 (g := (mkF m 8 #[.val (.ref b0), .val (.int (3 : Int32)), .val (.int (0 : Int32))] [(.ref b0)])) rfl rfl (hb hby d5_8)
  refine own_step (B := T1.setTop (mkF m 11 #[.val (.ref b0), .val (.int (3 : Int32)), .val (.int (0 : Int32))] [(.ref sa)])) (fun t k => st1 t k) ?_
  refine own_step (B := T1.setTop (mkF m 12 #[.val (.ref b0), .val (.int (3 : Int32)), .val (.int (0 : Int32))] [(.int (0 : Int32)), (.ref sa)])) (fun t k => XS.iloadN X1.here hx rfl (hb hby d5_11) rfl k) ?_
  have Vo_2 := V_sa
  obtain ⟨cl_2, Ar_2, q_2, S_2, M_2, H_2, G_2⟩ := Vo_2
  refine own_step (B := T1.setTop (mkF m 13 #[.val (.ref b0), .val (.int (3 : Int32)), .val (.int (0 : Int32))] [(.int w0)])) (fun t k => X1.iaload hx (j := (0 : Int32)) (v := (.int w0)) (by rw [e1]; exact Ar_2.1) (State.isArrayOf_alike hZ.alike Ar_2.2.1) Ar_2.2.2 (inb_of S_2 ⟨by decide, by decide⟩) (Has.at H_2 (inb_of S_2 ⟨by decide, by decide⟩) rfl) (g := (mkF m 12 #[.val (.ref b0), .val (.int (3 : Int32)), .val (.int (0 : Int32))] [(.int (0 : Int32)), (.ref sa)])) rfl rfl (hb hby d5_12) t k) ?_
  refine own_step (B := T1.setTop (mkF m 14 #[.val (.ref b0), .val (.int (3 : Int32)), .val (.int (0 : Int32))] [(.int (1 : Int32)), (.int w0)])) (fun t k => XS.iconst X1.here hx rfl (hb hby d5_13) k) ?_
  by_cases hc14 : w0 = (1 : Int32)
  · skip
    refine own_step (B := T1.setTop (mkF m 17 #[.val (.ref b0), .val (.int (3 : Int32)), .val (.int (0 : Int32))] [])) (fun t k => XS.icmpNo X1.here hx rfl (hb hby d5_14) rfl (teq hc14).2 k) ?_
    refine own_step (B := T1.setTop (mkF m 18 #[.val (.ref b0), .val (.int (3 : Int32)), .val (.int (0 : Int32))] [(.ref b0)])) (fun t k => XS.aloadN X1.here hx rfl (hb hby d5_17) rfl rfl k) ?_
    obtain ⟨T3, X3, e3, st3⟩ := getF X1 hx hZ hown (host := "") (Or.inl (hw _ (List.mem_of_getElem? (i := 28) rfl))) Via.refl e1 F_steps_b0 (g := (mkF m 18 #[.val (.ref b0), .val (.int (3 : Int32)), .val (.int (0 : Int32))] [(.ref b0)])) rfl rfl (hb hby d5_18)
    refine own_step (B := T3.setTop (mkF m 21 #[.val (.ref b0), .val (.int (3 : Int32)), .val (.int (0 : Int32))] [(.ref sa)])) (fun t k => st3 t k) ?_
    refine own_step (B := T3.setTop (mkF m 22 #[.val (.ref b0), .val (.int (3 : Int32)), .val (.int (0 : Int32))] [(.int (0 : Int32)), (.ref sa)])) (fun t k => XS.iloadN X3.here hx rfl (hb hby d5_21) rfl k) ?_
    refine own_step (B := T3.setTop (mkF m 23 #[.val (.ref b0), .val (.int (3 : Int32)), .val (.int (0 : Int32))] [(.int (1 : Int32)), (.int (0 : Int32)), (.ref sa)])) (fun t k => XS.iconst X3.here hx rfl (hb hby d5_22) k) ?_
    refine own_step (B := T3.setTop (mkF m 24 #[.val (.ref b0), .val (.int (3 : Int32)), .val (.int (0 : Int32))] [(.int (1 : Int32)), (.ref sa)])) (fun t k => XS.iadd X3.here hx rfl (hb hby d5_23) rfl k) ?_
    have Vo_4 := V_sa
    obtain ⟨cl_4, Ar_4, q_4, S_4, M_4, H_4, G_4⟩ := Vo_4
    refine own_step (B := T3.setTop (mkF m 25 #[.val (.ref b0), .val (.int (3 : Int32)), .val (.int (0 : Int32))] [(.int w1)])) (fun t k => X3.iaload hx (j := (1 : Int32)) (v := (.int w1)) (by rw [e3]; exact Ar_4.1) (State.isArrayOf_alike hZ.alike Ar_4.2.1) Ar_4.2.2 (inb_of S_4 ⟨by decide, by decide⟩) (Has.at H_4 (inb_of S_4 ⟨by decide, by decide⟩) rfl) (g := (mkF m 24 #[.val (.ref b0), .val (.int (3 : Int32)), .val (.int (0 : Int32))] [(.int (1 : Int32)), (.ref sa)])) rfl rfl (hb hby d5_24) t k) ?_
    refine own_step (B := T3.setTop (mkF m 26 #[.val (.ref b0), .val (.int (3 : Int32)), .val (.int (0 : Int32))] [(.ref b0), (.int w1)])) (fun t k => XS.aloadN X3.here hx rfl (hb hby d5_25) rfl rfl k) ?_
    obtain ⟨T5, X5, e5, st5⟩ := getF X3 hx hZ hown (host := "") (Or.inl (hw _ (List.mem_of_getElem? (i := 28) rfl))) Via.refl e3 F_steps_b0 (g := (mkF m 26 #[.val (.ref b0), .val (.int (3 : Int32)), .val (.int (0 : Int32))] [(.ref b0), (.int w1)])) rfl rfl (hb hby d5_26)
    refine own_step (B := T5.setTop (mkF m 29 #[.val (.ref b0), .val (.int (3 : Int32)), .val (.int (0 : Int32))] [(.ref sa), (.int w1)])) (fun t k => st5 t k) ?_
    refine own_step (B := T5.setTop (mkF m 30 #[.val (.ref b0), .val (.int (3 : Int32)), .val (.int (0 : Int32))] [(.int (3 : Int32)), (.ref sa), (.int w1)])) (fun t k => XS.iloadN X5.here hx rfl (hb hby d5_29) rfl k) ?_
    refine own_step (B := T5.setTop (mkF m 31 #[.val (.ref b0), .val (.int (3 : Int32)), .val (.int (0 : Int32))] [(.int (1 : Int32)), (.int (3 : Int32)), (.ref sa), (.int w1)])) (fun t k => XS.iconst X5.here hx rfl (hb hby d5_30) k) ?_
    refine own_step (B := T5.setTop (mkF m 32 #[.val (.ref b0), .val (.int (3 : Int32)), .val (.int (0 : Int32))] [(.int (4 : Int32)), (.ref sa), (.int w1)])) (fun t k => XS.iadd X5.here hx rfl (hb hby d5_31) rfl k) ?_
    have Vo_6 := V_sa
    obtain ⟨cl_6, Ar_6, q_6, S_6, M_6, H_6, G_6⟩ := Vo_6
    refine own_step (B := T5.setTop (mkF m 33 #[.val (.ref b0), .val (.int (3 : Int32)), .val (.int (0 : Int32))] [(.int w4), (.int w1)])) (fun t k => X5.iaload hx (j := (4 : Int32)) (v := (.int w4)) (by rw [e5]; exact Ar_6.1) (State.isArrayOf_alike hZ.alike Ar_6.2.1) Ar_6.2.2 (inb_of S_6 ⟨by decide, by decide⟩) (Has.at H_6 (inb_of S_6 ⟨by decide, by decide⟩) rfl) (g := (mkF m 32 #[.val (.ref b0), .val (.int (3 : Int32)), .val (.int (0 : Int32))] [(.int (4 : Int32)), (.ref sa), (.int w1)])) rfl rfl (hb hby d5_32) t k) ?_
    by_cases hc33 : w1 = w4
    · skip
      refine own_step (B := T5.setTop (mkF m 36 #[.val (.ref b0), .val (.int (3 : Int32)), .val (.int (0 : Int32))] [])) (fun t k => XS.icmpNo X5.here hx rfl (hb hby d5_33) rfl (teq hc33).2 k) ?_
      refine own_step (B := T5.setTop (mkF m 37 #[.val (.ref b0), .val (.int (3 : Int32)), .val (.int (0 : Int32))] [(.int (0 : Int32))])) (fun t k => XS.iconst X5.here hx rfl (hb hby d5_36) k) ?_
      exact own_retN X5 hx hlk (t := .boolean) Bd.returns (by simp) (hb hby d5_37) (by decide) (by decide) (by have hh : (own_ex1 (own_w w0 w1 w4)) = (0 : Int32) := (by simp [own_w, own_ex1, hc14, hc33]); exact ⟨by rw [hh]; rfl, N0, e5⟩)
    · skip
      refine own_step (B := T5.setTop (mkF m 38 #[.val (.ref b0), .val (.int (3 : Int32)), .val (.int (0 : Int32))] [])) (fun t k => XS.icmpYes X5.here hx rfl (pc0 := 33) (pc' := 38) rfl (hb hby d5_33) rfl (feq hc33).2 (by decide) (by decide) k) ?_
      refine own_step (B := T5.setTop (mkF m 41 #[.val (.ref b0), .val (.int (3 : Int32)), .val (.int (3 : Int32))] [])) (fun t k => XS.iinc X5.here hx rfl (hb hby d5_38) rfl (l' := #[.val (.ref b0), .val (.int (3 : Int32)), .val (.int (3 : Int32))]) rfl k) ?_
      refine own_step (B := T5.setTop (mkF m 2 #[.val (.ref b0), .val (.int (3 : Int32)), .val (.int (3 : Int32))] [])) (fun t k => XS.goto X5.here hx rfl (pc0 := 41) (pc' := 2) rfl (hb hby d5_41) (by decide) (by decide) k) ?_
      refine own_step (B := T5.setTop (mkF m 3 #[.val (.ref b0), .val (.int (3 : Int32)), .val (.int (3 : Int32))] [(.int (3 : Int32))])) (fun t k => XS.iloadN X5.here hx rfl (hb hby d5_2) rfl k) ?_
      refine own_step (B := T5.setTop (mkF m 4 #[.val (.ref b0), .val (.int (3 : Int32)), .val (.int (3 : Int32))] [(.int (3 : Int32)), (.int (3 : Int32))])) (fun t k => XS.iloadN X5.here hx rfl (hb hby d5_3) rfl k) ?_
      refine own_step (B := T5.setTop (mkF m 44 #[.val (.ref b0), .val (.int (3 : Int32)), .val (.int (3 : Int32))] [])) (fun t k => XS.icmpYes X5.here hx rfl (pc0 := 4) (pc' := 44) rfl (hb hby d5_4) rfl (flt (by decide)).2.1 (by decide) (by decide) k) ?_
      refine own_step (B := T5.setTop (mkF m 45 #[.val (.ref b0), .val (.int (3 : Int32)), .val (.int (3 : Int32))] [(.int (1 : Int32))])) (fun t k => XS.iconst X5.here hx rfl (hb hby d5_44) k) ?_
      exact own_retN X5 hx hlk (t := .boolean) Bd.returns (by simp) (hb hby d5_45) (by decide) (by decide) (by have hh : (own_ex1 (own_w w0 w1 w4)) = (1 : Int32) := (by simp [own_w, own_ex1, hc14, hc33]); exact ⟨by rw [hh]; rfl, N0, e5⟩)
  · skip
    refine own_step (B := T1.setTop (mkF m 38 #[.val (.ref b0), .val (.int (3 : Int32)), .val (.int (0 : Int32))] [])) (fun t k => XS.icmpYes X1.here hx rfl (pc0 := 14) (pc' := 38) rfl (hb hby d5_14) rfl (feq hc14).2 (by decide) (by decide) k) ?_
    refine own_step (B := T1.setTop (mkF m 41 #[.val (.ref b0), .val (.int (3 : Int32)), .val (.int (3 : Int32))] [])) (fun t k => XS.iinc X1.here hx rfl (hb hby d5_38) rfl (l' := #[.val (.ref b0), .val (.int (3 : Int32)), .val (.int (3 : Int32))]) rfl k) ?_
    refine own_step (B := T1.setTop (mkF m 2 #[.val (.ref b0), .val (.int (3 : Int32)), .val (.int (3 : Int32))] [])) (fun t k => XS.goto X1.here hx rfl (pc0 := 41) (pc' := 2) rfl (hb hby d5_41) (by decide) (by decide) k) ?_
    refine own_step (B := T1.setTop (mkF m 3 #[.val (.ref b0), .val (.int (3 : Int32)), .val (.int (3 : Int32))] [(.int (3 : Int32))])) (fun t k => XS.iloadN X1.here hx rfl (hb hby d5_2) rfl k) ?_
    refine own_step (B := T1.setTop (mkF m 4 #[.val (.ref b0), .val (.int (3 : Int32)), .val (.int (3 : Int32))] [(.int (3 : Int32)), (.int (3 : Int32))])) (fun t k => XS.iloadN X1.here hx rfl (hb hby d5_3) rfl k) ?_
    refine own_step (B := T1.setTop (mkF m 44 #[.val (.ref b0), .val (.int (3 : Int32)), .val (.int (3 : Int32))] [])) (fun t k => XS.icmpYes X1.here hx rfl (pc0 := 4) (pc' := 44) rfl (hb hby d5_4) rfl (flt (by decide)).2.1 (by decide) (by decide) k) ?_
    refine own_step (B := T1.setTop (mkF m 45 #[.val (.ref b0), .val (.int (3 : Int32)), .val (.int (3 : Int32))] [(.int (1 : Int32))])) (fun t k => XS.iconst X1.here hx rfl (hb hby d5_44) k) ?_
    exact own_retN X1 hx hlk (t := .boolean) Bd.returns (by simp) (hb hby d5_45) (by decide) (by decide) (by have hh : (own_ex1 (own_w w0 w1 w4)) = (1 : Int32) := (by simp [own_w, own_ex1, hc14]); exact ⟨by rw [hh]; rfl, N0, e1⟩)
theorem ef_rmr2 (m : MethodId) (x0 : Addr) (x1 : Int32) : entryFrame m #[(.ref x0), (.int x1)] 3 = mkF m 0 #[.val (.ref x0), .val (.int x1), .unset] [] := by first | (simp [entryFrame, mkF, argsToLocals, Value.category]; done) | rfl
def QQ_rmr2 (Z : State) (b0 : Addr) (sa : Addr) (kk : ClassId) (w0 w1 w2 w3 w4 w5 w6 w7 w8 w9 w10 w11 : Int32) (h0 : Heap) (n0 : Nat) (v : Option Value) (h : Heap) (L : List Loc) : Prop := v = some (.int (own_ex2 (own_w w0 w1 w7) (own_w w3 w4 w7))) ∧ Fr n0 L ∧ h = h0
set_option maxRecDepth 65536 in
set_option maxHeartbeats 40000000 in
theorem rmr2 (l : Launch) (Z : State) (a0 : Array Value) (hw : ∀ d ∈ tables_1, d.before a0 Z = true) (ws : List Jvm.Cond) (b0 : Addr) (sa : Addr) (kk : ClassId) (w0 w1 w2 w3 w4 w5 w6 w7 w8 w9 w10 w11 : Int32) (h0 : Heap) (n0 : Nat) (Z0 : n0 ≤ h0.size) (F_steps_b0 : Fld Z h0 b0 "com/example/tightrope/tightrope/history/Transaction" "steps" "[I" (.ref sa)) (V_sa : Arv Z h0 sa kk .int (12 : Int32) [(.int w0), (.int w1), (.int w2), (.int w3), (.int w4), (.int w5), (.int w6), (.int w7), (.int w8), (.int w9), (.int w10), (.int w11)] (.int (0 : Int32))) :
    MetFree l (⟨"com/example/tightrope/tightrope/history/Transaction", "readsFromOutside", "(I)Z"⟩ : MethodName) (head1 (Jvm.Cond.code (⟨"com/example/tightrope/tightrope/history/Transaction", "readsFromOutside", "(I)Z"⟩ : MethodName) prog_64_method_4_code 3 (some .boolean) :: ws) ({ frames := 0, cells := 0, slots := 0, locals := 0 } : Room)) (fun a U => a = #[(.ref b0), (.int (6 : Int32))] ∧ Z.Warmed39 U.vm ∧ U.heap = h0) (fun _ _ _ _ _ => True) (fun _ U o U' => ∃ v L, o = .returned v ∧ (QQ_rmr2 Z b0 sa kk w0 w1 w2 w3 w4 w5 w6 w7 w8 w9 w10 w11 h0 n0) v U'.heap L ∧ FrameEnd U o U' L ({ frames := 0, cells := 0, slots := 0, locals := 0 } : Room).cells ({ frames := 0, cells := 0, slots := 0, locals := 0 } : Room).slots) := by
  refine MetFree.of_bodySF (plainFor_of_name pn_com_example_tightrope_tightrope_history_Transaction) hisR ?_
  intro p e s m args below meth c s₁ Bd hml0 hP hK
  obtain ⟨rfl, hZ, hh⟩ := hP
  have hx := Bd.exec
  have hby := Bd.bytes
  have hlk : meth.locks = false := BodyLoose.notSynchronized Bd
  have hml : c.maxLocals = 3 := hml0
  have hown : s.vm.findClass "com/example/tightrope/tightrope/history/Transaction" = some m.cls := findClass_of_methodNamed Bd.named
  have hnm := (name_of_methodNamed Bd.named Bd.method).1
  have X0 : Stand p l e ({ frames := 0, cells := 0, slots := 0, locals := 0 } : Room) s m #[(.ref b0), (.int (6 : Int32))] below meth c s₁ [] 0 0 := Stand.of_body Bd
  have e0 : s₁.heap = h0 := by rw [← hh, Bd.state]; rfl
  have N0 := Fr.nil n0
  show own_G p.tables e below s (QQ_rmr2 Z b0 sa kk w0 w1 w2 w3 w4 w5 w6 w7 w8 w9 w10 w11 h0 n0) ({ frames := 0, cells := 0, slots := 0, locals := 0 } : Room).cells ({ frames := 0, cells := 0, slots := 0, locals := 0 } : Room).slots (s₁.setTop (entryFrame m #[(.ref b0), (.int (6 : Int32))] 3))
  refine own_step (B := s₁.setTop (mkF m 0 #[.val (.ref b0), .val (.int (6 : Int32)), .unset] [])) (fun t k => castTop (ef_rmr2 m b0 (6 : Int32)) k) ?_
  refine own_step (B := s₁.setTop (mkF m 1 #[.val (.ref b0), .val (.int (6 : Int32)), .unset] [(.int (0 : Int32))])) (fun t k => XS.iconst X0.here hx rfl (hb hby d5_0) k) ?_
  refine own_step (B := s₁.setTop (mkF m 2 #[.val (.ref b0), .val (.int (6 : Int32)), .val (.int (0 : Int32))] [])) (fun t k => XS.istoreN X0.here hx rfl (hb hby d5_1) rfl (l' := #[.val (.ref b0), .val (.int (6 : Int32)), .val (.int (0 : Int32))]) rfl k) ?_
  refine own_step (B := s₁.setTop (mkF m 3 #[.val (.ref b0), .val (.int (6 : Int32)), .val (.int (0 : Int32))] [(.int (0 : Int32))])) (fun t k => XS.iloadN X0.here hx rfl (hb hby d5_2) rfl k) ?_
  refine own_step (B := s₁.setTop (mkF m 4 #[.val (.ref b0), .val (.int (6 : Int32)), .val (.int (0 : Int32))] [(.int (6 : Int32)), (.int (0 : Int32))])) (fun t k => XS.iloadN X0.here hx rfl (hb hby d5_3) rfl k) ?_
  refine own_step (B := s₁.setTop (mkF m 7 #[.val (.ref b0), .val (.int (6 : Int32)), .val (.int (0 : Int32))] [])) (fun t k => XS.icmpNo X0.here hx rfl (hb hby d5_4) rfl (tlt (by decide)).2.1 k) ?_
  refine own_step (B := s₁.setTop (mkF m 8 #[.val (.ref b0), .val (.int (6 : Int32)), .val (.int (0 : Int32))] [(.ref b0)])) (fun t k => XS.aloadN X0.here hx rfl (hb hby d5_7) rfl rfl k) ?_
  obtain ⟨T1, X1, e1, st1⟩ := getF X0 hx hZ hown (host := "") (Or.inl (hw _ (List.mem_of_getElem? (i := 28) rfl))) Via.refl e0 F_steps_b0 (g := (mkF m 8 #[.val (.ref b0), .val (.int (6 : Int32)), .val (.int (0 : Int32))] [(.ref b0)])) rfl rfl (hb hby d5_8)
  refine own_step (B := T1.setTop (mkF m 11 #[.val (.ref b0), .val (.int (6 : Int32)), .val (.int (0 : Int32))] [(.ref sa)])) (fun t k => st1 t k) ?_
  refine own_step (B := T1.setTop (mkF m 12 #[.val (.ref b0), .val (.int (6 : Int32)), .val (.int (0 : Int32))] [(.int (0 : Int32)), (.ref sa)])) (fun t k => XS.iloadN X1.here hx rfl (hb hby d5_11) rfl k) ?_
  have Vo_2 := V_sa
  obtain ⟨cl_2, Ar_2, q_2, S_2, M_2, H_2, G_2⟩ := Vo_2
  refine own_step (B := T1.setTop (mkF m 13 #[.val (.ref b0), .val (.int (6 : Int32)), .val (.int (0 : Int32))] [(.int w0)])) (fun t k => X1.iaload hx (j := (0 : Int32)) (v := (.int w0)) (by rw [e1]; exact Ar_2.1) (State.isArrayOf_alike hZ.alike Ar_2.2.1) Ar_2.2.2 (inb_of S_2 ⟨by decide, by decide⟩) (Has.at H_2 (inb_of S_2 ⟨by decide, by decide⟩) rfl) (g := (mkF m 12 #[.val (.ref b0), .val (.int (6 : Int32)), .val (.int (0 : Int32))] [(.int (0 : Int32)), (.ref sa)])) rfl rfl (hb hby d5_12) t k) ?_
  refine own_step (B := T1.setTop (mkF m 14 #[.val (.ref b0), .val (.int (6 : Int32)), .val (.int (0 : Int32))] [(.int (1 : Int32)), (.int w0)])) (fun t k => XS.iconst X1.here hx rfl (hb hby d5_13) k) ?_
  by_cases hc14 : w0 = (1 : Int32)
  · skip
    refine own_step (B := T1.setTop (mkF m 17 #[.val (.ref b0), .val (.int (6 : Int32)), .val (.int (0 : Int32))] [])) (fun t k => XS.icmpNo X1.here hx rfl (hb hby d5_14) rfl (teq hc14).2 k) ?_
    refine own_step (B := T1.setTop (mkF m 18 #[.val (.ref b0), .val (.int (6 : Int32)), .val (.int (0 : Int32))] [(.ref b0)])) (fun t k => XS.aloadN X1.here hx rfl (hb hby d5_17) rfl rfl k) ?_
    obtain ⟨T3, X3, e3, st3⟩ := getF X1 hx hZ hown (host := "") (Or.inl (hw _ (List.mem_of_getElem? (i := 28) rfl))) Via.refl e1 F_steps_b0 (g := (mkF m 18 #[.val (.ref b0), .val (.int (6 : Int32)), .val (.int (0 : Int32))] [(.ref b0)])) rfl rfl (hb hby d5_18)
    refine own_step (B := T3.setTop (mkF m 21 #[.val (.ref b0), .val (.int (6 : Int32)), .val (.int (0 : Int32))] [(.ref sa)])) (fun t k => st3 t k) ?_
    refine own_step (B := T3.setTop (mkF m 22 #[.val (.ref b0), .val (.int (6 : Int32)), .val (.int (0 : Int32))] [(.int (0 : Int32)), (.ref sa)])) (fun t k => XS.iloadN X3.here hx rfl (hb hby d5_21) rfl k) ?_
    refine own_step (B := T3.setTop (mkF m 23 #[.val (.ref b0), .val (.int (6 : Int32)), .val (.int (0 : Int32))] [(.int (1 : Int32)), (.int (0 : Int32)), (.ref sa)])) (fun t k => XS.iconst X3.here hx rfl (hb hby d5_22) k) ?_
    refine own_step (B := T3.setTop (mkF m 24 #[.val (.ref b0), .val (.int (6 : Int32)), .val (.int (0 : Int32))] [(.int (1 : Int32)), (.ref sa)])) (fun t k => XS.iadd X3.here hx rfl (hb hby d5_23) rfl k) ?_
    have Vo_4 := V_sa
    obtain ⟨cl_4, Ar_4, q_4, S_4, M_4, H_4, G_4⟩ := Vo_4
    refine own_step (B := T3.setTop (mkF m 25 #[.val (.ref b0), .val (.int (6 : Int32)), .val (.int (0 : Int32))] [(.int w1)])) (fun t k => X3.iaload hx (j := (1 : Int32)) (v := (.int w1)) (by rw [e3]; exact Ar_4.1) (State.isArrayOf_alike hZ.alike Ar_4.2.1) Ar_4.2.2 (inb_of S_4 ⟨by decide, by decide⟩) (Has.at H_4 (inb_of S_4 ⟨by decide, by decide⟩) rfl) (g := (mkF m 24 #[.val (.ref b0), .val (.int (6 : Int32)), .val (.int (0 : Int32))] [(.int (1 : Int32)), (.ref sa)])) rfl rfl (hb hby d5_24) t k) ?_
    refine own_step (B := T3.setTop (mkF m 26 #[.val (.ref b0), .val (.int (6 : Int32)), .val (.int (0 : Int32))] [(.ref b0), (.int w1)])) (fun t k => XS.aloadN X3.here hx rfl (hb hby d5_25) rfl rfl k) ?_
    obtain ⟨T5, X5, e5, st5⟩ := getF X3 hx hZ hown (host := "") (Or.inl (hw _ (List.mem_of_getElem? (i := 28) rfl))) Via.refl e3 F_steps_b0 (g := (mkF m 26 #[.val (.ref b0), .val (.int (6 : Int32)), .val (.int (0 : Int32))] [(.ref b0), (.int w1)])) rfl rfl (hb hby d5_26)
    refine own_step (B := T5.setTop (mkF m 29 #[.val (.ref b0), .val (.int (6 : Int32)), .val (.int (0 : Int32))] [(.ref sa), (.int w1)])) (fun t k => st5 t k) ?_
    refine own_step (B := T5.setTop (mkF m 30 #[.val (.ref b0), .val (.int (6 : Int32)), .val (.int (0 : Int32))] [(.int (6 : Int32)), (.ref sa), (.int w1)])) (fun t k => XS.iloadN X5.here hx rfl (hb hby d5_29) rfl k) ?_
    refine own_step (B := T5.setTop (mkF m 31 #[.val (.ref b0), .val (.int (6 : Int32)), .val (.int (0 : Int32))] [(.int (1 : Int32)), (.int (6 : Int32)), (.ref sa), (.int w1)])) (fun t k => XS.iconst X5.here hx rfl (hb hby d5_30) k) ?_
    refine own_step (B := T5.setTop (mkF m 32 #[.val (.ref b0), .val (.int (6 : Int32)), .val (.int (0 : Int32))] [(.int (7 : Int32)), (.ref sa), (.int w1)])) (fun t k => XS.iadd X5.here hx rfl (hb hby d5_31) rfl k) ?_
    have Vo_6 := V_sa
    obtain ⟨cl_6, Ar_6, q_6, S_6, M_6, H_6, G_6⟩ := Vo_6
    refine own_step (B := T5.setTop (mkF m 33 #[.val (.ref b0), .val (.int (6 : Int32)), .val (.int (0 : Int32))] [(.int w7), (.int w1)])) (fun t k => X5.iaload hx (j := (7 : Int32)) (v := (.int w7)) (by rw [e5]; exact Ar_6.1) (State.isArrayOf_alike hZ.alike Ar_6.2.1) Ar_6.2.2 (inb_of S_6 ⟨by decide, by decide⟩) (Has.at H_6 (inb_of S_6 ⟨by decide, by decide⟩) rfl) (g := (mkF m 32 #[.val (.ref b0), .val (.int (6 : Int32)), .val (.int (0 : Int32))] [(.int (7 : Int32)), (.ref sa), (.int w1)])) rfl rfl (hb hby d5_32) t k) ?_
    by_cases hc33 : w1 = w7
    · skip
      refine own_step (B := T5.setTop (mkF m 36 #[.val (.ref b0), .val (.int (6 : Int32)), .val (.int (0 : Int32))] [])) (fun t k => XS.icmpNo X5.here hx rfl (hb hby d5_33) rfl (teq hc33).2 k) ?_
      refine own_step (B := T5.setTop (mkF m 37 #[.val (.ref b0), .val (.int (6 : Int32)), .val (.int (0 : Int32))] [(.int (0 : Int32))])) (fun t k => XS.iconst X5.here hx rfl (hb hby d5_36) k) ?_
      exact own_retN X5 hx hlk (t := .boolean) Bd.returns (by simp) (hb hby d5_37) (by decide) (by decide) (by have hh : (own_ex2 (own_w w0 w1 w7) (own_w w3 w4 w7)) = (0 : Int32) := (by simp [own_w, own_ex2, hc14, hc33]); exact ⟨by rw [hh]; rfl, N0, e5⟩)
    · skip
      refine own_step (B := T5.setTop (mkF m 38 #[.val (.ref b0), .val (.int (6 : Int32)), .val (.int (0 : Int32))] [])) (fun t k => XS.icmpYes X5.here hx rfl (pc0 := 33) (pc' := 38) rfl (hb hby d5_33) rfl (feq hc33).2 (by decide) (by decide) k) ?_
      refine own_step (B := T5.setTop (mkF m 41 #[.val (.ref b0), .val (.int (6 : Int32)), .val (.int (3 : Int32))] [])) (fun t k => XS.iinc X5.here hx rfl (hb hby d5_38) rfl (l' := #[.val (.ref b0), .val (.int (6 : Int32)), .val (.int (3 : Int32))]) rfl k) ?_
      refine own_step (B := T5.setTop (mkF m 2 #[.val (.ref b0), .val (.int (6 : Int32)), .val (.int (3 : Int32))] [])) (fun t k => XS.goto X5.here hx rfl (pc0 := 41) (pc' := 2) rfl (hb hby d5_41) (by decide) (by decide) k) ?_
      refine own_step (B := T5.setTop (mkF m 3 #[.val (.ref b0), .val (.int (6 : Int32)), .val (.int (3 : Int32))] [(.int (3 : Int32))])) (fun t k => XS.iloadN X5.here hx rfl (hb hby d5_2) rfl k) ?_
      refine own_step (B := T5.setTop (mkF m 4 #[.val (.ref b0), .val (.int (6 : Int32)), .val (.int (3 : Int32))] [(.int (6 : Int32)), (.int (3 : Int32))])) (fun t k => XS.iloadN X5.here hx rfl (hb hby d5_3) rfl k) ?_
      refine own_step (B := T5.setTop (mkF m 7 #[.val (.ref b0), .val (.int (6 : Int32)), .val (.int (3 : Int32))] [])) (fun t k => XS.icmpNo X5.here hx rfl (hb hby d5_4) rfl (tlt (by decide)).2.1 k) ?_
      refine own_step (B := T5.setTop (mkF m 8 #[.val (.ref b0), .val (.int (6 : Int32)), .val (.int (3 : Int32))] [(.ref b0)])) (fun t k => XS.aloadN X5.here hx rfl (hb hby d5_7) rfl rfl k) ?_
      obtain ⟨T7, X7, e7, st7⟩ := getF X5 hx hZ hown (host := "") (Or.inl (hw _ (List.mem_of_getElem? (i := 28) rfl))) Via.refl e5 F_steps_b0 (g := (mkF m 8 #[.val (.ref b0), .val (.int (6 : Int32)), .val (.int (3 : Int32))] [(.ref b0)])) rfl rfl (hb hby d5_8)
      refine own_step (B := T7.setTop (mkF m 11 #[.val (.ref b0), .val (.int (6 : Int32)), .val (.int (3 : Int32))] [(.ref sa)])) (fun t k => st7 t k) ?_
      refine own_step (B := T7.setTop (mkF m 12 #[.val (.ref b0), .val (.int (6 : Int32)), .val (.int (3 : Int32))] [(.int (3 : Int32)), (.ref sa)])) (fun t k => XS.iloadN X7.here hx rfl (hb hby d5_11) rfl k) ?_
      have Vo_8 := V_sa
      obtain ⟨cl_8, Ar_8, q_8, S_8, M_8, H_8, G_8⟩ := Vo_8
      refine own_step (B := T7.setTop (mkF m 13 #[.val (.ref b0), .val (.int (6 : Int32)), .val (.int (3 : Int32))] [(.int w3)])) (fun t k => X7.iaload hx (j := (3 : Int32)) (v := (.int w3)) (by rw [e7]; exact Ar_8.1) (State.isArrayOf_alike hZ.alike Ar_8.2.1) Ar_8.2.2 (inb_of S_8 ⟨by decide, by decide⟩) (Has.at H_8 (inb_of S_8 ⟨by decide, by decide⟩) rfl) (g := (mkF m 12 #[.val (.ref b0), .val (.int (6 : Int32)), .val (.int (3 : Int32))] [(.int (3 : Int32)), (.ref sa)])) rfl rfl (hb hby d5_12) t k) ?_
      refine own_step (B := T7.setTop (mkF m 14 #[.val (.ref b0), .val (.int (6 : Int32)), .val (.int (3 : Int32))] [(.int (1 : Int32)), (.int w3)])) (fun t k => XS.iconst X7.here hx rfl (hb hby d5_13) k) ?_
      by_cases hc14_9 : w3 = (1 : Int32)
      · skip
        refine own_step (B := T7.setTop (mkF m 17 #[.val (.ref b0), .val (.int (6 : Int32)), .val (.int (3 : Int32))] [])) (fun t k => XS.icmpNo X7.here hx rfl (hb hby d5_14) rfl (teq hc14_9).2 k) ?_
        refine own_step (B := T7.setTop (mkF m 18 #[.val (.ref b0), .val (.int (6 : Int32)), .val (.int (3 : Int32))] [(.ref b0)])) (fun t k => XS.aloadN X7.here hx rfl (hb hby d5_17) rfl rfl k) ?_
        obtain ⟨T10, X10, e10, st10⟩ := getF X7 hx hZ hown (host := "") (Or.inl (hw _ (List.mem_of_getElem? (i := 28) rfl))) Via.refl e7 F_steps_b0 (g := (mkF m 18 #[.val (.ref b0), .val (.int (6 : Int32)), .val (.int (3 : Int32))] [(.ref b0)])) rfl rfl (hb hby d5_18)
        refine own_step (B := T10.setTop (mkF m 21 #[.val (.ref b0), .val (.int (6 : Int32)), .val (.int (3 : Int32))] [(.ref sa)])) (fun t k => st10 t k) ?_
        refine own_step (B := T10.setTop (mkF m 22 #[.val (.ref b0), .val (.int (6 : Int32)), .val (.int (3 : Int32))] [(.int (3 : Int32)), (.ref sa)])) (fun t k => XS.iloadN X10.here hx rfl (hb hby d5_21) rfl k) ?_
        refine own_step (B := T10.setTop (mkF m 23 #[.val (.ref b0), .val (.int (6 : Int32)), .val (.int (3 : Int32))] [(.int (1 : Int32)), (.int (3 : Int32)), (.ref sa)])) (fun t k => XS.iconst X10.here hx rfl (hb hby d5_22) k) ?_
        refine own_step (B := T10.setTop (mkF m 24 #[.val (.ref b0), .val (.int (6 : Int32)), .val (.int (3 : Int32))] [(.int (4 : Int32)), (.ref sa)])) (fun t k => XS.iadd X10.here hx rfl (hb hby d5_23) rfl k) ?_
        have Vo_11 := V_sa
        obtain ⟨cl_11, Ar_11, q_11, S_11, M_11, H_11, G_11⟩ := Vo_11
        refine own_step (B := T10.setTop (mkF m 25 #[.val (.ref b0), .val (.int (6 : Int32)), .val (.int (3 : Int32))] [(.int w4)])) (fun t k => X10.iaload hx (j := (4 : Int32)) (v := (.int w4)) (by rw [e10]; exact Ar_11.1) (State.isArrayOf_alike hZ.alike Ar_11.2.1) Ar_11.2.2 (inb_of S_11 ⟨by decide, by decide⟩) (Has.at H_11 (inb_of S_11 ⟨by decide, by decide⟩) rfl) (g := (mkF m 24 #[.val (.ref b0), .val (.int (6 : Int32)), .val (.int (3 : Int32))] [(.int (4 : Int32)), (.ref sa)])) rfl rfl (hb hby d5_24) t k) ?_
        refine own_step (B := T10.setTop (mkF m 26 #[.val (.ref b0), .val (.int (6 : Int32)), .val (.int (3 : Int32))] [(.ref b0), (.int w4)])) (fun t k => XS.aloadN X10.here hx rfl (hb hby d5_25) rfl rfl k) ?_
        obtain ⟨T12, X12, e12, st12⟩ := getF X10 hx hZ hown (host := "") (Or.inl (hw _ (List.mem_of_getElem? (i := 28) rfl))) Via.refl e10 F_steps_b0 (g := (mkF m 26 #[.val (.ref b0), .val (.int (6 : Int32)), .val (.int (3 : Int32))] [(.ref b0), (.int w4)])) rfl rfl (hb hby d5_26)
        refine own_step (B := T12.setTop (mkF m 29 #[.val (.ref b0), .val (.int (6 : Int32)), .val (.int (3 : Int32))] [(.ref sa), (.int w4)])) (fun t k => st12 t k) ?_
        refine own_step (B := T12.setTop (mkF m 30 #[.val (.ref b0), .val (.int (6 : Int32)), .val (.int (3 : Int32))] [(.int (6 : Int32)), (.ref sa), (.int w4)])) (fun t k => XS.iloadN X12.here hx rfl (hb hby d5_29) rfl k) ?_
        refine own_step (B := T12.setTop (mkF m 31 #[.val (.ref b0), .val (.int (6 : Int32)), .val (.int (3 : Int32))] [(.int (1 : Int32)), (.int (6 : Int32)), (.ref sa), (.int w4)])) (fun t k => XS.iconst X12.here hx rfl (hb hby d5_30) k) ?_
        refine own_step (B := T12.setTop (mkF m 32 #[.val (.ref b0), .val (.int (6 : Int32)), .val (.int (3 : Int32))] [(.int (7 : Int32)), (.ref sa), (.int w4)])) (fun t k => XS.iadd X12.here hx rfl (hb hby d5_31) rfl k) ?_
        have Vo_13 := V_sa
        obtain ⟨cl_13, Ar_13, q_13, S_13, M_13, H_13, G_13⟩ := Vo_13
        refine own_step (B := T12.setTop (mkF m 33 #[.val (.ref b0), .val (.int (6 : Int32)), .val (.int (3 : Int32))] [(.int w7), (.int w4)])) (fun t k => X12.iaload hx (j := (7 : Int32)) (v := (.int w7)) (by rw [e12]; exact Ar_13.1) (State.isArrayOf_alike hZ.alike Ar_13.2.1) Ar_13.2.2 (inb_of S_13 ⟨by decide, by decide⟩) (Has.at H_13 (inb_of S_13 ⟨by decide, by decide⟩) rfl) (g := (mkF m 32 #[.val (.ref b0), .val (.int (6 : Int32)), .val (.int (3 : Int32))] [(.int (7 : Int32)), (.ref sa), (.int w4)])) rfl rfl (hb hby d5_32) t k) ?_
        by_cases hc33_14 : w4 = w7
        · skip
          refine own_step (B := T12.setTop (mkF m 36 #[.val (.ref b0), .val (.int (6 : Int32)), .val (.int (3 : Int32))] [])) (fun t k => XS.icmpNo X12.here hx rfl (hb hby d5_33) rfl (teq hc33_14).2 k) ?_
          refine own_step (B := T12.setTop (mkF m 37 #[.val (.ref b0), .val (.int (6 : Int32)), .val (.int (3 : Int32))] [(.int (0 : Int32))])) (fun t k => XS.iconst X12.here hx rfl (hb hby d5_36) k) ?_
          exact own_retN X12 hx hlk (t := .boolean) Bd.returns (by simp) (hb hby d5_37) (by decide) (by decide) (by have hh : (own_ex2 (own_w w0 w1 w7) (own_w w3 w4 w7)) = (0 : Int32) := (by simp [own_w, own_ex2, hc14, hc33, hc14_9, hc33_14]); exact ⟨by rw [hh]; rfl, N0, e12⟩)
        · skip
          refine own_step (B := T12.setTop (mkF m 38 #[.val (.ref b0), .val (.int (6 : Int32)), .val (.int (3 : Int32))] [])) (fun t k => XS.icmpYes X12.here hx rfl (pc0 := 33) (pc' := 38) rfl (hb hby d5_33) rfl (feq hc33_14).2 (by decide) (by decide) k) ?_
          refine own_step (B := T12.setTop (mkF m 41 #[.val (.ref b0), .val (.int (6 : Int32)), .val (.int (6 : Int32))] [])) (fun t k => XS.iinc X12.here hx rfl (hb hby d5_38) rfl (l' := #[.val (.ref b0), .val (.int (6 : Int32)), .val (.int (6 : Int32))]) rfl k) ?_
          refine own_step (B := T12.setTop (mkF m 2 #[.val (.ref b0), .val (.int (6 : Int32)), .val (.int (6 : Int32))] [])) (fun t k => XS.goto X12.here hx rfl (pc0 := 41) (pc' := 2) rfl (hb hby d5_41) (by decide) (by decide) k) ?_
          refine own_step (B := T12.setTop (mkF m 3 #[.val (.ref b0), .val (.int (6 : Int32)), .val (.int (6 : Int32))] [(.int (6 : Int32))])) (fun t k => XS.iloadN X12.here hx rfl (hb hby d5_2) rfl k) ?_
          refine own_step (B := T12.setTop (mkF m 4 #[.val (.ref b0), .val (.int (6 : Int32)), .val (.int (6 : Int32))] [(.int (6 : Int32)), (.int (6 : Int32))])) (fun t k => XS.iloadN X12.here hx rfl (hb hby d5_3) rfl k) ?_
          refine own_step (B := T12.setTop (mkF m 44 #[.val (.ref b0), .val (.int (6 : Int32)), .val (.int (6 : Int32))] [])) (fun t k => XS.icmpYes X12.here hx rfl (pc0 := 4) (pc' := 44) rfl (hb hby d5_4) rfl (flt (by decide)).2.1 (by decide) (by decide) k) ?_
          refine own_step (B := T12.setTop (mkF m 45 #[.val (.ref b0), .val (.int (6 : Int32)), .val (.int (6 : Int32))] [(.int (1 : Int32))])) (fun t k => XS.iconst X12.here hx rfl (hb hby d5_44) k) ?_
          exact own_retN X12 hx hlk (t := .boolean) Bd.returns (by simp) (hb hby d5_45) (by decide) (by decide) (by have hh : (own_ex2 (own_w w0 w1 w7) (own_w w3 w4 w7)) = (1 : Int32) := (by simp [own_w, own_ex2, hc14, hc33, hc14_9, hc33_14]); exact ⟨by rw [hh]; rfl, N0, e12⟩)
      · skip
        refine own_step (B := T7.setTop (mkF m 38 #[.val (.ref b0), .val (.int (6 : Int32)), .val (.int (3 : Int32))] [])) (fun t k => XS.icmpYes X7.here hx rfl (pc0 := 14) (pc' := 38) rfl (hb hby d5_14) rfl (feq hc14_9).2 (by decide) (by decide) k) ?_
        refine own_step (B := T7.setTop (mkF m 41 #[.val (.ref b0), .val (.int (6 : Int32)), .val (.int (6 : Int32))] [])) (fun t k => XS.iinc X7.here hx rfl (hb hby d5_38) rfl (l' := #[.val (.ref b0), .val (.int (6 : Int32)), .val (.int (6 : Int32))]) rfl k) ?_
        refine own_step (B := T7.setTop (mkF m 2 #[.val (.ref b0), .val (.int (6 : Int32)), .val (.int (6 : Int32))] [])) (fun t k => XS.goto X7.here hx rfl (pc0 := 41) (pc' := 2) rfl (hb hby d5_41) (by decide) (by decide) k) ?_
        refine own_step (B := T7.setTop (mkF m 3 #[.val (.ref b0), .val (.int (6 : Int32)), .val (.int (6 : Int32))] [(.int (6 : Int32))])) (fun t k => XS.iloadN X7.here hx rfl (hb hby d5_2) rfl k) ?_
        refine own_step (B := T7.setTop (mkF m 4 #[.val (.ref b0), .val (.int (6 : Int32)), .val (.int (6 : Int32))] [(.int (6 : Int32)), (.int (6 : Int32))])) (fun t k => XS.iloadN X7.here hx rfl (hb hby d5_3) rfl k) ?_
        refine own_step (B := T7.setTop (mkF m 44 #[.val (.ref b0), .val (.int (6 : Int32)), .val (.int (6 : Int32))] [])) (fun t k => XS.icmpYes X7.here hx rfl (pc0 := 4) (pc' := 44) rfl (hb hby d5_4) rfl (flt (by decide)).2.1 (by decide) (by decide) k) ?_
        refine own_step (B := T7.setTop (mkF m 45 #[.val (.ref b0), .val (.int (6 : Int32)), .val (.int (6 : Int32))] [(.int (1 : Int32))])) (fun t k => XS.iconst X7.here hx rfl (hb hby d5_44) k) ?_
        exact own_retN X7 hx hlk (t := .boolean) Bd.returns (by simp) (hb hby d5_45) (by decide) (by decide) (by have hh : (own_ex2 (own_w w0 w1 w7) (own_w w3 w4 w7)) = (1 : Int32) := (by simp [own_w, own_ex2, hc14, hc33, hc14_9]); exact ⟨by rw [hh]; rfl, N0, e7⟩)
  · skip
    refine own_step (B := T1.setTop (mkF m 38 #[.val (.ref b0), .val (.int (6 : Int32)), .val (.int (0 : Int32))] [])) (fun t k => XS.icmpYes X1.here hx rfl (pc0 := 14) (pc' := 38) rfl (hb hby d5_14) rfl (feq hc14).2 (by decide) (by decide) k) ?_
    refine own_step (B := T1.setTop (mkF m 41 #[.val (.ref b0), .val (.int (6 : Int32)), .val (.int (3 : Int32))] [])) (fun t k => XS.iinc X1.here hx rfl (hb hby d5_38) rfl (l' := #[.val (.ref b0), .val (.int (6 : Int32)), .val (.int (3 : Int32))]) rfl k) ?_
    refine own_step (B := T1.setTop (mkF m 2 #[.val (.ref b0), .val (.int (6 : Int32)), .val (.int (3 : Int32))] [])) (fun t k => XS.goto X1.here hx rfl (pc0 := 41) (pc' := 2) rfl (hb hby d5_41) (by decide) (by decide) k) ?_
    refine own_step (B := T1.setTop (mkF m 3 #[.val (.ref b0), .val (.int (6 : Int32)), .val (.int (3 : Int32))] [(.int (3 : Int32))])) (fun t k => XS.iloadN X1.here hx rfl (hb hby d5_2) rfl k) ?_
    refine own_step (B := T1.setTop (mkF m 4 #[.val (.ref b0), .val (.int (6 : Int32)), .val (.int (3 : Int32))] [(.int (6 : Int32)), (.int (3 : Int32))])) (fun t k => XS.iloadN X1.here hx rfl (hb hby d5_3) rfl k) ?_
    refine own_step (B := T1.setTop (mkF m 7 #[.val (.ref b0), .val (.int (6 : Int32)), .val (.int (3 : Int32))] [])) (fun t k => XS.icmpNo X1.here hx rfl (hb hby d5_4) rfl (tlt (by decide)).2.1 k) ?_
    refine own_step (B := T1.setTop (mkF m 8 #[.val (.ref b0), .val (.int (6 : Int32)), .val (.int (3 : Int32))] [(.ref b0)])) (fun t k => XS.aloadN X1.here hx rfl (hb hby d5_7) rfl rfl k) ?_
    obtain ⟨T15, X15, e15, st15⟩ := getF X1 hx hZ hown (host := "") (Or.inl (hw _ (List.mem_of_getElem? (i := 28) rfl))) Via.refl e1 F_steps_b0 (g := (mkF m 8 #[.val (.ref b0), .val (.int (6 : Int32)), .val (.int (3 : Int32))] [(.ref b0)])) rfl rfl (hb hby d5_8)
    refine own_step (B := T15.setTop (mkF m 11 #[.val (.ref b0), .val (.int (6 : Int32)), .val (.int (3 : Int32))] [(.ref sa)])) (fun t k => st15 t k) ?_
    refine own_step (B := T15.setTop (mkF m 12 #[.val (.ref b0), .val (.int (6 : Int32)), .val (.int (3 : Int32))] [(.int (3 : Int32)), (.ref sa)])) (fun t k => XS.iloadN X15.here hx rfl (hb hby d5_11) rfl k) ?_
    have Vo_16 := V_sa
    obtain ⟨cl_16, Ar_16, q_16, S_16, M_16, H_16, G_16⟩ := Vo_16
    refine own_step (B := T15.setTop (mkF m 13 #[.val (.ref b0), .val (.int (6 : Int32)), .val (.int (3 : Int32))] [(.int w3)])) (fun t k => X15.iaload hx (j := (3 : Int32)) (v := (.int w3)) (by rw [e15]; exact Ar_16.1) (State.isArrayOf_alike hZ.alike Ar_16.2.1) Ar_16.2.2 (inb_of S_16 ⟨by decide, by decide⟩) (Has.at H_16 (inb_of S_16 ⟨by decide, by decide⟩) rfl) (g := (mkF m 12 #[.val (.ref b0), .val (.int (6 : Int32)), .val (.int (3 : Int32))] [(.int (3 : Int32)), (.ref sa)])) rfl rfl (hb hby d5_12) t k) ?_
    refine own_step (B := T15.setTop (mkF m 14 #[.val (.ref b0), .val (.int (6 : Int32)), .val (.int (3 : Int32))] [(.int (1 : Int32)), (.int w3)])) (fun t k => XS.iconst X15.here hx rfl (hb hby d5_13) k) ?_
    by_cases hc14_17 : w3 = (1 : Int32)
    · skip
      refine own_step (B := T15.setTop (mkF m 17 #[.val (.ref b0), .val (.int (6 : Int32)), .val (.int (3 : Int32))] [])) (fun t k => XS.icmpNo X15.here hx rfl (hb hby d5_14) rfl (teq hc14_17).2 k) ?_
      refine own_step (B := T15.setTop (mkF m 18 #[.val (.ref b0), .val (.int (6 : Int32)), .val (.int (3 : Int32))] [(.ref b0)])) (fun t k => XS.aloadN X15.here hx rfl (hb hby d5_17) rfl rfl k) ?_
      obtain ⟨T18, X18, e18, st18⟩ := getF X15 hx hZ hown (host := "") (Or.inl (hw _ (List.mem_of_getElem? (i := 28) rfl))) Via.refl e15 F_steps_b0 (g := (mkF m 18 #[.val (.ref b0), .val (.int (6 : Int32)), .val (.int (3 : Int32))] [(.ref b0)])) rfl rfl (hb hby d5_18)
      refine own_step (B := T18.setTop (mkF m 21 #[.val (.ref b0), .val (.int (6 : Int32)), .val (.int (3 : Int32))] [(.ref sa)])) (fun t k => st18 t k) ?_
      refine own_step (B := T18.setTop (mkF m 22 #[.val (.ref b0), .val (.int (6 : Int32)), .val (.int (3 : Int32))] [(.int (3 : Int32)), (.ref sa)])) (fun t k => XS.iloadN X18.here hx rfl (hb hby d5_21) rfl k) ?_
      refine own_step (B := T18.setTop (mkF m 23 #[.val (.ref b0), .val (.int (6 : Int32)), .val (.int (3 : Int32))] [(.int (1 : Int32)), (.int (3 : Int32)), (.ref sa)])) (fun t k => XS.iconst X18.here hx rfl (hb hby d5_22) k) ?_
      refine own_step (B := T18.setTop (mkF m 24 #[.val (.ref b0), .val (.int (6 : Int32)), .val (.int (3 : Int32))] [(.int (4 : Int32)), (.ref sa)])) (fun t k => XS.iadd X18.here hx rfl (hb hby d5_23) rfl k) ?_
      have Vo_19 := V_sa
      obtain ⟨cl_19, Ar_19, q_19, S_19, M_19, H_19, G_19⟩ := Vo_19
      refine own_step (B := T18.setTop (mkF m 25 #[.val (.ref b0), .val (.int (6 : Int32)), .val (.int (3 : Int32))] [(.int w4)])) (fun t k => X18.iaload hx (j := (4 : Int32)) (v := (.int w4)) (by rw [e18]; exact Ar_19.1) (State.isArrayOf_alike hZ.alike Ar_19.2.1) Ar_19.2.2 (inb_of S_19 ⟨by decide, by decide⟩) (Has.at H_19 (inb_of S_19 ⟨by decide, by decide⟩) rfl) (g := (mkF m 24 #[.val (.ref b0), .val (.int (6 : Int32)), .val (.int (3 : Int32))] [(.int (4 : Int32)), (.ref sa)])) rfl rfl (hb hby d5_24) t k) ?_
      refine own_step (B := T18.setTop (mkF m 26 #[.val (.ref b0), .val (.int (6 : Int32)), .val (.int (3 : Int32))] [(.ref b0), (.int w4)])) (fun t k => XS.aloadN X18.here hx rfl (hb hby d5_25) rfl rfl k) ?_
      obtain ⟨T20, X20, e20, st20⟩ := getF X18 hx hZ hown (host := "") (Or.inl (hw _ (List.mem_of_getElem? (i := 28) rfl))) Via.refl e18 F_steps_b0 (g := (mkF m 26 #[.val (.ref b0), .val (.int (6 : Int32)), .val (.int (3 : Int32))] [(.ref b0), (.int w4)])) rfl rfl (hb hby d5_26)
      refine own_step (B := T20.setTop (mkF m 29 #[.val (.ref b0), .val (.int (6 : Int32)), .val (.int (3 : Int32))] [(.ref sa), (.int w4)])) (fun t k => st20 t k) ?_
      refine own_step (B := T20.setTop (mkF m 30 #[.val (.ref b0), .val (.int (6 : Int32)), .val (.int (3 : Int32))] [(.int (6 : Int32)), (.ref sa), (.int w4)])) (fun t k => XS.iloadN X20.here hx rfl (hb hby d5_29) rfl k) ?_
      refine own_step (B := T20.setTop (mkF m 31 #[.val (.ref b0), .val (.int (6 : Int32)), .val (.int (3 : Int32))] [(.int (1 : Int32)), (.int (6 : Int32)), (.ref sa), (.int w4)])) (fun t k => XS.iconst X20.here hx rfl (hb hby d5_30) k) ?_
      refine own_step (B := T20.setTop (mkF m 32 #[.val (.ref b0), .val (.int (6 : Int32)), .val (.int (3 : Int32))] [(.int (7 : Int32)), (.ref sa), (.int w4)])) (fun t k => XS.iadd X20.here hx rfl (hb hby d5_31) rfl k) ?_
      have Vo_21 := V_sa
      obtain ⟨cl_21, Ar_21, q_21, S_21, M_21, H_21, G_21⟩ := Vo_21
      refine own_step (B := T20.setTop (mkF m 33 #[.val (.ref b0), .val (.int (6 : Int32)), .val (.int (3 : Int32))] [(.int w7), (.int w4)])) (fun t k => X20.iaload hx (j := (7 : Int32)) (v := (.int w7)) (by rw [e20]; exact Ar_21.1) (State.isArrayOf_alike hZ.alike Ar_21.2.1) Ar_21.2.2 (inb_of S_21 ⟨by decide, by decide⟩) (Has.at H_21 (inb_of S_21 ⟨by decide, by decide⟩) rfl) (g := (mkF m 32 #[.val (.ref b0), .val (.int (6 : Int32)), .val (.int (3 : Int32))] [(.int (7 : Int32)), (.ref sa), (.int w4)])) rfl rfl (hb hby d5_32) t k) ?_
      by_cases hc33 : w4 = w7
      · skip
        refine own_step (B := T20.setTop (mkF m 36 #[.val (.ref b0), .val (.int (6 : Int32)), .val (.int (3 : Int32))] [])) (fun t k => XS.icmpNo X20.here hx rfl (hb hby d5_33) rfl (teq hc33).2 k) ?_
        refine own_step (B := T20.setTop (mkF m 37 #[.val (.ref b0), .val (.int (6 : Int32)), .val (.int (3 : Int32))] [(.int (0 : Int32))])) (fun t k => XS.iconst X20.here hx rfl (hb hby d5_36) k) ?_
        exact own_retN X20 hx hlk (t := .boolean) Bd.returns (by simp) (hb hby d5_37) (by decide) (by decide) (by have hh : (own_ex2 (own_w w0 w1 w7) (own_w w3 w4 w7)) = (0 : Int32) := (by simp [own_w, own_ex2, hc14, hc14_17, hc33]); exact ⟨by rw [hh]; rfl, N0, e20⟩)
      · skip
        refine own_step (B := T20.setTop (mkF m 38 #[.val (.ref b0), .val (.int (6 : Int32)), .val (.int (3 : Int32))] [])) (fun t k => XS.icmpYes X20.here hx rfl (pc0 := 33) (pc' := 38) rfl (hb hby d5_33) rfl (feq hc33).2 (by decide) (by decide) k) ?_
        refine own_step (B := T20.setTop (mkF m 41 #[.val (.ref b0), .val (.int (6 : Int32)), .val (.int (6 : Int32))] [])) (fun t k => XS.iinc X20.here hx rfl (hb hby d5_38) rfl (l' := #[.val (.ref b0), .val (.int (6 : Int32)), .val (.int (6 : Int32))]) rfl k) ?_
        refine own_step (B := T20.setTop (mkF m 2 #[.val (.ref b0), .val (.int (6 : Int32)), .val (.int (6 : Int32))] [])) (fun t k => XS.goto X20.here hx rfl (pc0 := 41) (pc' := 2) rfl (hb hby d5_41) (by decide) (by decide) k) ?_
        refine own_step (B := T20.setTop (mkF m 3 #[.val (.ref b0), .val (.int (6 : Int32)), .val (.int (6 : Int32))] [(.int (6 : Int32))])) (fun t k => XS.iloadN X20.here hx rfl (hb hby d5_2) rfl k) ?_
        refine own_step (B := T20.setTop (mkF m 4 #[.val (.ref b0), .val (.int (6 : Int32)), .val (.int (6 : Int32))] [(.int (6 : Int32)), (.int (6 : Int32))])) (fun t k => XS.iloadN X20.here hx rfl (hb hby d5_3) rfl k) ?_
        refine own_step (B := T20.setTop (mkF m 44 #[.val (.ref b0), .val (.int (6 : Int32)), .val (.int (6 : Int32))] [])) (fun t k => XS.icmpYes X20.here hx rfl (pc0 := 4) (pc' := 44) rfl (hb hby d5_4) rfl (flt (by decide)).2.1 (by decide) (by decide) k) ?_
        refine own_step (B := T20.setTop (mkF m 45 #[.val (.ref b0), .val (.int (6 : Int32)), .val (.int (6 : Int32))] [(.int (1 : Int32))])) (fun t k => XS.iconst X20.here hx rfl (hb hby d5_44) k) ?_
        exact own_retN X20 hx hlk (t := .boolean) Bd.returns (by simp) (hb hby d5_45) (by decide) (by decide) (by have hh : (own_ex2 (own_w w0 w1 w7) (own_w w3 w4 w7)) = (1 : Int32) := (by simp [own_w, own_ex2, hc14, hc14_17, hc33]); exact ⟨by rw [hh]; rfl, N0, e20⟩)
    · skip
      refine own_step (B := T15.setTop (mkF m 38 #[.val (.ref b0), .val (.int (6 : Int32)), .val (.int (3 : Int32))] [])) (fun t k => XS.icmpYes X15.here hx rfl (pc0 := 14) (pc' := 38) rfl (hb hby d5_14) rfl (feq hc14_17).2 (by decide) (by decide) k) ?_
      refine own_step (B := T15.setTop (mkF m 41 #[.val (.ref b0), .val (.int (6 : Int32)), .val (.int (6 : Int32))] [])) (fun t k => XS.iinc X15.here hx rfl (hb hby d5_38) rfl (l' := #[.val (.ref b0), .val (.int (6 : Int32)), .val (.int (6 : Int32))]) rfl k) ?_
      refine own_step (B := T15.setTop (mkF m 2 #[.val (.ref b0), .val (.int (6 : Int32)), .val (.int (6 : Int32))] [])) (fun t k => XS.goto X15.here hx rfl (pc0 := 41) (pc' := 2) rfl (hb hby d5_41) (by decide) (by decide) k) ?_
      refine own_step (B := T15.setTop (mkF m 3 #[.val (.ref b0), .val (.int (6 : Int32)), .val (.int (6 : Int32))] [(.int (6 : Int32))])) (fun t k => XS.iloadN X15.here hx rfl (hb hby d5_2) rfl k) ?_
      refine own_step (B := T15.setTop (mkF m 4 #[.val (.ref b0), .val (.int (6 : Int32)), .val (.int (6 : Int32))] [(.int (6 : Int32)), (.int (6 : Int32))])) (fun t k => XS.iloadN X15.here hx rfl (hb hby d5_3) rfl k) ?_
      refine own_step (B := T15.setTop (mkF m 44 #[.val (.ref b0), .val (.int (6 : Int32)), .val (.int (6 : Int32))] [])) (fun t k => XS.icmpYes X15.here hx rfl (pc0 := 4) (pc' := 44) rfl (hb hby d5_4) rfl (flt (by decide)).2.1 (by decide) (by decide) k) ?_
      refine own_step (B := T15.setTop (mkF m 45 #[.val (.ref b0), .val (.int (6 : Int32)), .val (.int (6 : Int32))] [(.int (1 : Int32))])) (fun t k => XS.iconst X15.here hx rfl (hb hby d5_44) k) ?_
      exact own_retN X15 hx hlk (t := .boolean) Bd.returns (by simp) (hb hby d5_45) (by decide) (by decide) (by have hh : (own_ex2 (own_w w0 w1 w7) (own_w w3 w4 w7)) = (1 : Int32) := (by simp [own_w, own_ex2, hc14, hc14_17]); exact ⟨by rw [hh]; rfl, N0, e15⟩)
theorem ef_rmr3 (m : MethodId) (x0 : Addr) (x1 : Int32) : entryFrame m #[(.ref x0), (.int x1)] 3 = mkF m 0 #[.val (.ref x0), .val (.int x1), .unset] [] := by first | (simp [entryFrame, mkF, argsToLocals, Value.category]; done) | rfl
def QQ_rmr3 (Z : State) (b0 : Addr) (sa : Addr) (kk : ClassId) (w0 w1 w2 w3 w4 w5 w6 w7 w8 w9 w10 w11 : Int32) (h0 : Heap) (n0 : Nat) (v : Option Value) (h : Heap) (L : List Loc) : Prop := v = some (.int (own_ex3 (own_w w0 w1 w10) (own_w w3 w4 w10) (own_w w6 w7 w10))) ∧ Fr n0 L ∧ h = h0
set_option maxRecDepth 65536 in
set_option maxHeartbeats 40000000 in
theorem rmr3 (l : Launch) (Z : State) (a0 : Array Value) (hw : ∀ d ∈ tables_1, d.before a0 Z = true) (ws : List Jvm.Cond) (b0 : Addr) (sa : Addr) (kk : ClassId) (w0 w1 w2 w3 w4 w5 w6 w7 w8 w9 w10 w11 : Int32) (h0 : Heap) (n0 : Nat) (Z0 : n0 ≤ h0.size) (F_steps_b0 : Fld Z h0 b0 "com/example/tightrope/tightrope/history/Transaction" "steps" "[I" (.ref sa)) (V_sa : Arv Z h0 sa kk .int (12 : Int32) [(.int w0), (.int w1), (.int w2), (.int w3), (.int w4), (.int w5), (.int w6), (.int w7), (.int w8), (.int w9), (.int w10), (.int w11)] (.int (0 : Int32))) :
    MetFree l (⟨"com/example/tightrope/tightrope/history/Transaction", "readsFromOutside", "(I)Z"⟩ : MethodName) (head1 (Jvm.Cond.code (⟨"com/example/tightrope/tightrope/history/Transaction", "readsFromOutside", "(I)Z"⟩ : MethodName) prog_64_method_4_code 3 (some .boolean) :: ws) ({ frames := 0, cells := 0, slots := 0, locals := 0 } : Room)) (fun a U => a = #[(.ref b0), (.int (9 : Int32))] ∧ Z.Warmed39 U.vm ∧ U.heap = h0) (fun _ _ _ _ _ => True) (fun _ U o U' => ∃ v L, o = .returned v ∧ (QQ_rmr3 Z b0 sa kk w0 w1 w2 w3 w4 w5 w6 w7 w8 w9 w10 w11 h0 n0) v U'.heap L ∧ FrameEnd U o U' L ({ frames := 0, cells := 0, slots := 0, locals := 0 } : Room).cells ({ frames := 0, cells := 0, slots := 0, locals := 0 } : Room).slots) := by
  refine MetFree.of_bodySF (plainFor_of_name pn_com_example_tightrope_tightrope_history_Transaction) hisR ?_
  intro p e s m args below meth c s₁ Bd hml0 hP hK
  obtain ⟨rfl, hZ, hh⟩ := hP
  have hx := Bd.exec
  have hby := Bd.bytes
  have hlk : meth.locks = false := BodyLoose.notSynchronized Bd
  have hml : c.maxLocals = 3 := hml0
  have hown : s.vm.findClass "com/example/tightrope/tightrope/history/Transaction" = some m.cls := findClass_of_methodNamed Bd.named
  have hnm := (name_of_methodNamed Bd.named Bd.method).1
  have X0 : Stand p l e ({ frames := 0, cells := 0, slots := 0, locals := 0 } : Room) s m #[(.ref b0), (.int (9 : Int32))] below meth c s₁ [] 0 0 := Stand.of_body Bd
  have e0 : s₁.heap = h0 := by rw [← hh, Bd.state]; rfl
  have N0 := Fr.nil n0
  show own_G p.tables e below s (QQ_rmr3 Z b0 sa kk w0 w1 w2 w3 w4 w5 w6 w7 w8 w9 w10 w11 h0 n0) ({ frames := 0, cells := 0, slots := 0, locals := 0 } : Room).cells ({ frames := 0, cells := 0, slots := 0, locals := 0 } : Room).slots (s₁.setTop (entryFrame m #[(.ref b0), (.int (9 : Int32))] 3))
  refine own_step (B := s₁.setTop (mkF m 0 #[.val (.ref b0), .val (.int (9 : Int32)), .unset] [])) (fun t k => castTop (ef_rmr3 m b0 (9 : Int32)) k) ?_
  refine own_step (B := s₁.setTop (mkF m 1 #[.val (.ref b0), .val (.int (9 : Int32)), .unset] [(.int (0 : Int32))])) (fun t k => XS.iconst X0.here hx rfl (hb hby d5_0) k) ?_
  refine own_step (B := s₁.setTop (mkF m 2 #[.val (.ref b0), .val (.int (9 : Int32)), .val (.int (0 : Int32))] [])) (fun t k => XS.istoreN X0.here hx rfl (hb hby d5_1) rfl (l' := #[.val (.ref b0), .val (.int (9 : Int32)), .val (.int (0 : Int32))]) rfl k) ?_
  refine own_step (B := s₁.setTop (mkF m 3 #[.val (.ref b0), .val (.int (9 : Int32)), .val (.int (0 : Int32))] [(.int (0 : Int32))])) (fun t k => XS.iloadN X0.here hx rfl (hb hby d5_2) rfl k) ?_
  refine own_step (B := s₁.setTop (mkF m 4 #[.val (.ref b0), .val (.int (9 : Int32)), .val (.int (0 : Int32))] [(.int (9 : Int32)), (.int (0 : Int32))])) (fun t k => XS.iloadN X0.here hx rfl (hb hby d5_3) rfl k) ?_
  refine own_step (B := s₁.setTop (mkF m 7 #[.val (.ref b0), .val (.int (9 : Int32)), .val (.int (0 : Int32))] [])) (fun t k => XS.icmpNo X0.here hx rfl (hb hby d5_4) rfl (tlt (by decide)).2.1 k) ?_
  refine own_step (B := s₁.setTop (mkF m 8 #[.val (.ref b0), .val (.int (9 : Int32)), .val (.int (0 : Int32))] [(.ref b0)])) (fun t k => XS.aloadN X0.here hx rfl (hb hby d5_7) rfl rfl k) ?_
  obtain ⟨T1, X1, e1, st1⟩ := getF X0 hx hZ hown (host := "") (Or.inl (hw _ (List.mem_of_getElem? (i := 28) rfl))) Via.refl e0 F_steps_b0 (g := (mkF m 8 #[.val (.ref b0), .val (.int (9 : Int32)), .val (.int (0 : Int32))] [(.ref b0)])) rfl rfl (hb hby d5_8)
  refine own_step (B := T1.setTop (mkF m 11 #[.val (.ref b0), .val (.int (9 : Int32)), .val (.int (0 : Int32))] [(.ref sa)])) (fun t k => st1 t k) ?_
  refine own_step (B := T1.setTop (mkF m 12 #[.val (.ref b0), .val (.int (9 : Int32)), .val (.int (0 : Int32))] [(.int (0 : Int32)), (.ref sa)])) (fun t k => XS.iloadN X1.here hx rfl (hb hby d5_11) rfl k) ?_
  have Vo_2 := V_sa
  obtain ⟨cl_2, Ar_2, q_2, S_2, M_2, H_2, G_2⟩ := Vo_2
  refine own_step (B := T1.setTop (mkF m 13 #[.val (.ref b0), .val (.int (9 : Int32)), .val (.int (0 : Int32))] [(.int w0)])) (fun t k => X1.iaload hx (j := (0 : Int32)) (v := (.int w0)) (by rw [e1]; exact Ar_2.1) (State.isArrayOf_alike hZ.alike Ar_2.2.1) Ar_2.2.2 (inb_of S_2 ⟨by decide, by decide⟩) (Has.at H_2 (inb_of S_2 ⟨by decide, by decide⟩) rfl) (g := (mkF m 12 #[.val (.ref b0), .val (.int (9 : Int32)), .val (.int (0 : Int32))] [(.int (0 : Int32)), (.ref sa)])) rfl rfl (hb hby d5_12) t k) ?_
  refine own_step (B := T1.setTop (mkF m 14 #[.val (.ref b0), .val (.int (9 : Int32)), .val (.int (0 : Int32))] [(.int (1 : Int32)), (.int w0)])) (fun t k => XS.iconst X1.here hx rfl (hb hby d5_13) k) ?_
  by_cases hc14 : w0 = (1 : Int32)
  · skip
    refine own_step (B := T1.setTop (mkF m 17 #[.val (.ref b0), .val (.int (9 : Int32)), .val (.int (0 : Int32))] [])) (fun t k => XS.icmpNo X1.here hx rfl (hb hby d5_14) rfl (teq hc14).2 k) ?_
    refine own_step (B := T1.setTop (mkF m 18 #[.val (.ref b0), .val (.int (9 : Int32)), .val (.int (0 : Int32))] [(.ref b0)])) (fun t k => XS.aloadN X1.here hx rfl (hb hby d5_17) rfl rfl k) ?_
    obtain ⟨T3, X3, e3, st3⟩ := getF X1 hx hZ hown (host := "") (Or.inl (hw _ (List.mem_of_getElem? (i := 28) rfl))) Via.refl e1 F_steps_b0 (g := (mkF m 18 #[.val (.ref b0), .val (.int (9 : Int32)), .val (.int (0 : Int32))] [(.ref b0)])) rfl rfl (hb hby d5_18)
    refine own_step (B := T3.setTop (mkF m 21 #[.val (.ref b0), .val (.int (9 : Int32)), .val (.int (0 : Int32))] [(.ref sa)])) (fun t k => st3 t k) ?_
    refine own_step (B := T3.setTop (mkF m 22 #[.val (.ref b0), .val (.int (9 : Int32)), .val (.int (0 : Int32))] [(.int (0 : Int32)), (.ref sa)])) (fun t k => XS.iloadN X3.here hx rfl (hb hby d5_21) rfl k) ?_
    refine own_step (B := T3.setTop (mkF m 23 #[.val (.ref b0), .val (.int (9 : Int32)), .val (.int (0 : Int32))] [(.int (1 : Int32)), (.int (0 : Int32)), (.ref sa)])) (fun t k => XS.iconst X3.here hx rfl (hb hby d5_22) k) ?_
    refine own_step (B := T3.setTop (mkF m 24 #[.val (.ref b0), .val (.int (9 : Int32)), .val (.int (0 : Int32))] [(.int (1 : Int32)), (.ref sa)])) (fun t k => XS.iadd X3.here hx rfl (hb hby d5_23) rfl k) ?_
    have Vo_4 := V_sa
    obtain ⟨cl_4, Ar_4, q_4, S_4, M_4, H_4, G_4⟩ := Vo_4
    refine own_step (B := T3.setTop (mkF m 25 #[.val (.ref b0), .val (.int (9 : Int32)), .val (.int (0 : Int32))] [(.int w1)])) (fun t k => X3.iaload hx (j := (1 : Int32)) (v := (.int w1)) (by rw [e3]; exact Ar_4.1) (State.isArrayOf_alike hZ.alike Ar_4.2.1) Ar_4.2.2 (inb_of S_4 ⟨by decide, by decide⟩) (Has.at H_4 (inb_of S_4 ⟨by decide, by decide⟩) rfl) (g := (mkF m 24 #[.val (.ref b0), .val (.int (9 : Int32)), .val (.int (0 : Int32))] [(.int (1 : Int32)), (.ref sa)])) rfl rfl (hb hby d5_24) t k) ?_
    refine own_step (B := T3.setTop (mkF m 26 #[.val (.ref b0), .val (.int (9 : Int32)), .val (.int (0 : Int32))] [(.ref b0), (.int w1)])) (fun t k => XS.aloadN X3.here hx rfl (hb hby d5_25) rfl rfl k) ?_
    obtain ⟨T5, X5, e5, st5⟩ := getF X3 hx hZ hown (host := "") (Or.inl (hw _ (List.mem_of_getElem? (i := 28) rfl))) Via.refl e3 F_steps_b0 (g := (mkF m 26 #[.val (.ref b0), .val (.int (9 : Int32)), .val (.int (0 : Int32))] [(.ref b0), (.int w1)])) rfl rfl (hb hby d5_26)
    refine own_step (B := T5.setTop (mkF m 29 #[.val (.ref b0), .val (.int (9 : Int32)), .val (.int (0 : Int32))] [(.ref sa), (.int w1)])) (fun t k => st5 t k) ?_
    refine own_step (B := T5.setTop (mkF m 30 #[.val (.ref b0), .val (.int (9 : Int32)), .val (.int (0 : Int32))] [(.int (9 : Int32)), (.ref sa), (.int w1)])) (fun t k => XS.iloadN X5.here hx rfl (hb hby d5_29) rfl k) ?_
    refine own_step (B := T5.setTop (mkF m 31 #[.val (.ref b0), .val (.int (9 : Int32)), .val (.int (0 : Int32))] [(.int (1 : Int32)), (.int (9 : Int32)), (.ref sa), (.int w1)])) (fun t k => XS.iconst X5.here hx rfl (hb hby d5_30) k) ?_
    refine own_step (B := T5.setTop (mkF m 32 #[.val (.ref b0), .val (.int (9 : Int32)), .val (.int (0 : Int32))] [(.int (10 : Int32)), (.ref sa), (.int w1)])) (fun t k => XS.iadd X5.here hx rfl (hb hby d5_31) rfl k) ?_
    have Vo_6 := V_sa
    obtain ⟨cl_6, Ar_6, q_6, S_6, M_6, H_6, G_6⟩ := Vo_6
    refine own_step (B := T5.setTop (mkF m 33 #[.val (.ref b0), .val (.int (9 : Int32)), .val (.int (0 : Int32))] [(.int w10), (.int w1)])) (fun t k => X5.iaload hx (j := (10 : Int32)) (v := (.int w10)) (by rw [e5]; exact Ar_6.1) (State.isArrayOf_alike hZ.alike Ar_6.2.1) Ar_6.2.2 (inb_of S_6 ⟨by decide, by decide⟩) (Has.at H_6 (inb_of S_6 ⟨by decide, by decide⟩) rfl) (g := (mkF m 32 #[.val (.ref b0), .val (.int (9 : Int32)), .val (.int (0 : Int32))] [(.int (10 : Int32)), (.ref sa), (.int w1)])) rfl rfl (hb hby d5_32) t k) ?_
    by_cases hc33 : w1 = w10
    · skip
      refine own_step (B := T5.setTop (mkF m 36 #[.val (.ref b0), .val (.int (9 : Int32)), .val (.int (0 : Int32))] [])) (fun t k => XS.icmpNo X5.here hx rfl (hb hby d5_33) rfl (teq hc33).2 k) ?_
      refine own_step (B := T5.setTop (mkF m 37 #[.val (.ref b0), .val (.int (9 : Int32)), .val (.int (0 : Int32))] [(.int (0 : Int32))])) (fun t k => XS.iconst X5.here hx rfl (hb hby d5_36) k) ?_
      exact own_retN X5 hx hlk (t := .boolean) Bd.returns (by simp) (hb hby d5_37) (by decide) (by decide) (by have hh : (own_ex3 (own_w w0 w1 w10) (own_w w3 w4 w10) (own_w w6 w7 w10)) = (0 : Int32) := (by simp [own_w, own_ex3, hc14, hc33]); exact ⟨by rw [hh]; rfl, N0, e5⟩)
    · skip
      refine own_step (B := T5.setTop (mkF m 38 #[.val (.ref b0), .val (.int (9 : Int32)), .val (.int (0 : Int32))] [])) (fun t k => XS.icmpYes X5.here hx rfl (pc0 := 33) (pc' := 38) rfl (hb hby d5_33) rfl (feq hc33).2 (by decide) (by decide) k) ?_
      refine own_step (B := T5.setTop (mkF m 41 #[.val (.ref b0), .val (.int (9 : Int32)), .val (.int (3 : Int32))] [])) (fun t k => XS.iinc X5.here hx rfl (hb hby d5_38) rfl (l' := #[.val (.ref b0), .val (.int (9 : Int32)), .val (.int (3 : Int32))]) rfl k) ?_
      refine own_step (B := T5.setTop (mkF m 2 #[.val (.ref b0), .val (.int (9 : Int32)), .val (.int (3 : Int32))] [])) (fun t k => XS.goto X5.here hx rfl (pc0 := 41) (pc' := 2) rfl (hb hby d5_41) (by decide) (by decide) k) ?_
      refine own_step (B := T5.setTop (mkF m 3 #[.val (.ref b0), .val (.int (9 : Int32)), .val (.int (3 : Int32))] [(.int (3 : Int32))])) (fun t k => XS.iloadN X5.here hx rfl (hb hby d5_2) rfl k) ?_
      refine own_step (B := T5.setTop (mkF m 4 #[.val (.ref b0), .val (.int (9 : Int32)), .val (.int (3 : Int32))] [(.int (9 : Int32)), (.int (3 : Int32))])) (fun t k => XS.iloadN X5.here hx rfl (hb hby d5_3) rfl k) ?_
      refine own_step (B := T5.setTop (mkF m 7 #[.val (.ref b0), .val (.int (9 : Int32)), .val (.int (3 : Int32))] [])) (fun t k => XS.icmpNo X5.here hx rfl (hb hby d5_4) rfl (tlt (by decide)).2.1 k) ?_
      refine own_step (B := T5.setTop (mkF m 8 #[.val (.ref b0), .val (.int (9 : Int32)), .val (.int (3 : Int32))] [(.ref b0)])) (fun t k => XS.aloadN X5.here hx rfl (hb hby d5_7) rfl rfl k) ?_
      obtain ⟨T7, X7, e7, st7⟩ := getF X5 hx hZ hown (host := "") (Or.inl (hw _ (List.mem_of_getElem? (i := 28) rfl))) Via.refl e5 F_steps_b0 (g := (mkF m 8 #[.val (.ref b0), .val (.int (9 : Int32)), .val (.int (3 : Int32))] [(.ref b0)])) rfl rfl (hb hby d5_8)
      refine own_step (B := T7.setTop (mkF m 11 #[.val (.ref b0), .val (.int (9 : Int32)), .val (.int (3 : Int32))] [(.ref sa)])) (fun t k => st7 t k) ?_
      refine own_step (B := T7.setTop (mkF m 12 #[.val (.ref b0), .val (.int (9 : Int32)), .val (.int (3 : Int32))] [(.int (3 : Int32)), (.ref sa)])) (fun t k => XS.iloadN X7.here hx rfl (hb hby d5_11) rfl k) ?_
      have Vo_8 := V_sa
      obtain ⟨cl_8, Ar_8, q_8, S_8, M_8, H_8, G_8⟩ := Vo_8
      refine own_step (B := T7.setTop (mkF m 13 #[.val (.ref b0), .val (.int (9 : Int32)), .val (.int (3 : Int32))] [(.int w3)])) (fun t k => X7.iaload hx (j := (3 : Int32)) (v := (.int w3)) (by rw [e7]; exact Ar_8.1) (State.isArrayOf_alike hZ.alike Ar_8.2.1) Ar_8.2.2 (inb_of S_8 ⟨by decide, by decide⟩) (Has.at H_8 (inb_of S_8 ⟨by decide, by decide⟩) rfl) (g := (mkF m 12 #[.val (.ref b0), .val (.int (9 : Int32)), .val (.int (3 : Int32))] [(.int (3 : Int32)), (.ref sa)])) rfl rfl (hb hby d5_12) t k) ?_
      refine own_step (B := T7.setTop (mkF m 14 #[.val (.ref b0), .val (.int (9 : Int32)), .val (.int (3 : Int32))] [(.int (1 : Int32)), (.int w3)])) (fun t k => XS.iconst X7.here hx rfl (hb hby d5_13) k) ?_
      by_cases hc14_9 : w3 = (1 : Int32)
      · skip
        refine own_step (B := T7.setTop (mkF m 17 #[.val (.ref b0), .val (.int (9 : Int32)), .val (.int (3 : Int32))] [])) (fun t k => XS.icmpNo X7.here hx rfl (hb hby d5_14) rfl (teq hc14_9).2 k) ?_
        refine own_step (B := T7.setTop (mkF m 18 #[.val (.ref b0), .val (.int (9 : Int32)), .val (.int (3 : Int32))] [(.ref b0)])) (fun t k => XS.aloadN X7.here hx rfl (hb hby d5_17) rfl rfl k) ?_
        obtain ⟨T10, X10, e10, st10⟩ := getF X7 hx hZ hown (host := "") (Or.inl (hw _ (List.mem_of_getElem? (i := 28) rfl))) Via.refl e7 F_steps_b0 (g := (mkF m 18 #[.val (.ref b0), .val (.int (9 : Int32)), .val (.int (3 : Int32))] [(.ref b0)])) rfl rfl (hb hby d5_18)
        refine own_step (B := T10.setTop (mkF m 21 #[.val (.ref b0), .val (.int (9 : Int32)), .val (.int (3 : Int32))] [(.ref sa)])) (fun t k => st10 t k) ?_
        refine own_step (B := T10.setTop (mkF m 22 #[.val (.ref b0), .val (.int (9 : Int32)), .val (.int (3 : Int32))] [(.int (3 : Int32)), (.ref sa)])) (fun t k => XS.iloadN X10.here hx rfl (hb hby d5_21) rfl k) ?_
        refine own_step (B := T10.setTop (mkF m 23 #[.val (.ref b0), .val (.int (9 : Int32)), .val (.int (3 : Int32))] [(.int (1 : Int32)), (.int (3 : Int32)), (.ref sa)])) (fun t k => XS.iconst X10.here hx rfl (hb hby d5_22) k) ?_
        refine own_step (B := T10.setTop (mkF m 24 #[.val (.ref b0), .val (.int (9 : Int32)), .val (.int (3 : Int32))] [(.int (4 : Int32)), (.ref sa)])) (fun t k => XS.iadd X10.here hx rfl (hb hby d5_23) rfl k) ?_
        have Vo_11 := V_sa
        obtain ⟨cl_11, Ar_11, q_11, S_11, M_11, H_11, G_11⟩ := Vo_11
        refine own_step (B := T10.setTop (mkF m 25 #[.val (.ref b0), .val (.int (9 : Int32)), .val (.int (3 : Int32))] [(.int w4)])) (fun t k => X10.iaload hx (j := (4 : Int32)) (v := (.int w4)) (by rw [e10]; exact Ar_11.1) (State.isArrayOf_alike hZ.alike Ar_11.2.1) Ar_11.2.2 (inb_of S_11 ⟨by decide, by decide⟩) (Has.at H_11 (inb_of S_11 ⟨by decide, by decide⟩) rfl) (g := (mkF m 24 #[.val (.ref b0), .val (.int (9 : Int32)), .val (.int (3 : Int32))] [(.int (4 : Int32)), (.ref sa)])) rfl rfl (hb hby d5_24) t k) ?_
        refine own_step (B := T10.setTop (mkF m 26 #[.val (.ref b0), .val (.int (9 : Int32)), .val (.int (3 : Int32))] [(.ref b0), (.int w4)])) (fun t k => XS.aloadN X10.here hx rfl (hb hby d5_25) rfl rfl k) ?_
        obtain ⟨T12, X12, e12, st12⟩ := getF X10 hx hZ hown (host := "") (Or.inl (hw _ (List.mem_of_getElem? (i := 28) rfl))) Via.refl e10 F_steps_b0 (g := (mkF m 26 #[.val (.ref b0), .val (.int (9 : Int32)), .val (.int (3 : Int32))] [(.ref b0), (.int w4)])) rfl rfl (hb hby d5_26)
        refine own_step (B := T12.setTop (mkF m 29 #[.val (.ref b0), .val (.int (9 : Int32)), .val (.int (3 : Int32))] [(.ref sa), (.int w4)])) (fun t k => st12 t k) ?_
        refine own_step (B := T12.setTop (mkF m 30 #[.val (.ref b0), .val (.int (9 : Int32)), .val (.int (3 : Int32))] [(.int (9 : Int32)), (.ref sa), (.int w4)])) (fun t k => XS.iloadN X12.here hx rfl (hb hby d5_29) rfl k) ?_
        refine own_step (B := T12.setTop (mkF m 31 #[.val (.ref b0), .val (.int (9 : Int32)), .val (.int (3 : Int32))] [(.int (1 : Int32)), (.int (9 : Int32)), (.ref sa), (.int w4)])) (fun t k => XS.iconst X12.here hx rfl (hb hby d5_30) k) ?_
        refine own_step (B := T12.setTop (mkF m 32 #[.val (.ref b0), .val (.int (9 : Int32)), .val (.int (3 : Int32))] [(.int (10 : Int32)), (.ref sa), (.int w4)])) (fun t k => XS.iadd X12.here hx rfl (hb hby d5_31) rfl k) ?_
        have Vo_13 := V_sa
        obtain ⟨cl_13, Ar_13, q_13, S_13, M_13, H_13, G_13⟩ := Vo_13
        refine own_step (B := T12.setTop (mkF m 33 #[.val (.ref b0), .val (.int (9 : Int32)), .val (.int (3 : Int32))] [(.int w10), (.int w4)])) (fun t k => X12.iaload hx (j := (10 : Int32)) (v := (.int w10)) (by rw [e12]; exact Ar_13.1) (State.isArrayOf_alike hZ.alike Ar_13.2.1) Ar_13.2.2 (inb_of S_13 ⟨by decide, by decide⟩) (Has.at H_13 (inb_of S_13 ⟨by decide, by decide⟩) rfl) (g := (mkF m 32 #[.val (.ref b0), .val (.int (9 : Int32)), .val (.int (3 : Int32))] [(.int (10 : Int32)), (.ref sa), (.int w4)])) rfl rfl (hb hby d5_32) t k) ?_
        by_cases hc33_14 : w4 = w10
        · skip
          refine own_step (B := T12.setTop (mkF m 36 #[.val (.ref b0), .val (.int (9 : Int32)), .val (.int (3 : Int32))] [])) (fun t k => XS.icmpNo X12.here hx rfl (hb hby d5_33) rfl (teq hc33_14).2 k) ?_
          refine own_step (B := T12.setTop (mkF m 37 #[.val (.ref b0), .val (.int (9 : Int32)), .val (.int (3 : Int32))] [(.int (0 : Int32))])) (fun t k => XS.iconst X12.here hx rfl (hb hby d5_36) k) ?_
          exact own_retN X12 hx hlk (t := .boolean) Bd.returns (by simp) (hb hby d5_37) (by decide) (by decide) (by have hh : (own_ex3 (own_w w0 w1 w10) (own_w w3 w4 w10) (own_w w6 w7 w10)) = (0 : Int32) := (by simp [own_w, own_ex3, hc14, hc33, hc14_9, hc33_14]); exact ⟨by rw [hh]; rfl, N0, e12⟩)
        · skip
          refine own_step (B := T12.setTop (mkF m 38 #[.val (.ref b0), .val (.int (9 : Int32)), .val (.int (3 : Int32))] [])) (fun t k => XS.icmpYes X12.here hx rfl (pc0 := 33) (pc' := 38) rfl (hb hby d5_33) rfl (feq hc33_14).2 (by decide) (by decide) k) ?_
          refine own_step (B := T12.setTop (mkF m 41 #[.val (.ref b0), .val (.int (9 : Int32)), .val (.int (6 : Int32))] [])) (fun t k => XS.iinc X12.here hx rfl (hb hby d5_38) rfl (l' := #[.val (.ref b0), .val (.int (9 : Int32)), .val (.int (6 : Int32))]) rfl k) ?_
          refine own_step (B := T12.setTop (mkF m 2 #[.val (.ref b0), .val (.int (9 : Int32)), .val (.int (6 : Int32))] [])) (fun t k => XS.goto X12.here hx rfl (pc0 := 41) (pc' := 2) rfl (hb hby d5_41) (by decide) (by decide) k) ?_
          refine own_step (B := T12.setTop (mkF m 3 #[.val (.ref b0), .val (.int (9 : Int32)), .val (.int (6 : Int32))] [(.int (6 : Int32))])) (fun t k => XS.iloadN X12.here hx rfl (hb hby d5_2) rfl k) ?_
          refine own_step (B := T12.setTop (mkF m 4 #[.val (.ref b0), .val (.int (9 : Int32)), .val (.int (6 : Int32))] [(.int (9 : Int32)), (.int (6 : Int32))])) (fun t k => XS.iloadN X12.here hx rfl (hb hby d5_3) rfl k) ?_
          refine own_step (B := T12.setTop (mkF m 7 #[.val (.ref b0), .val (.int (9 : Int32)), .val (.int (6 : Int32))] [])) (fun t k => XS.icmpNo X12.here hx rfl (hb hby d5_4) rfl (tlt (by decide)).2.1 k) ?_
          refine own_step (B := T12.setTop (mkF m 8 #[.val (.ref b0), .val (.int (9 : Int32)), .val (.int (6 : Int32))] [(.ref b0)])) (fun t k => XS.aloadN X12.here hx rfl (hb hby d5_7) rfl rfl k) ?_
          obtain ⟨T15, X15, e15, st15⟩ := getF X12 hx hZ hown (host := "") (Or.inl (hw _ (List.mem_of_getElem? (i := 28) rfl))) Via.refl e12 F_steps_b0 (g := (mkF m 8 #[.val (.ref b0), .val (.int (9 : Int32)), .val (.int (6 : Int32))] [(.ref b0)])) rfl rfl (hb hby d5_8)
          refine own_step (B := T15.setTop (mkF m 11 #[.val (.ref b0), .val (.int (9 : Int32)), .val (.int (6 : Int32))] [(.ref sa)])) (fun t k => st15 t k) ?_
          refine own_step (B := T15.setTop (mkF m 12 #[.val (.ref b0), .val (.int (9 : Int32)), .val (.int (6 : Int32))] [(.int (6 : Int32)), (.ref sa)])) (fun t k => XS.iloadN X15.here hx rfl (hb hby d5_11) rfl k) ?_
          have Vo_16 := V_sa
          obtain ⟨cl_16, Ar_16, q_16, S_16, M_16, H_16, G_16⟩ := Vo_16
          refine own_step (B := T15.setTop (mkF m 13 #[.val (.ref b0), .val (.int (9 : Int32)), .val (.int (6 : Int32))] [(.int w6)])) (fun t k => X15.iaload hx (j := (6 : Int32)) (v := (.int w6)) (by rw [e15]; exact Ar_16.1) (State.isArrayOf_alike hZ.alike Ar_16.2.1) Ar_16.2.2 (inb_of S_16 ⟨by decide, by decide⟩) (Has.at H_16 (inb_of S_16 ⟨by decide, by decide⟩) rfl) (g := (mkF m 12 #[.val (.ref b0), .val (.int (9 : Int32)), .val (.int (6 : Int32))] [(.int (6 : Int32)), (.ref sa)])) rfl rfl (hb hby d5_12) t k) ?_
          refine own_step (B := T15.setTop (mkF m 14 #[.val (.ref b0), .val (.int (9 : Int32)), .val (.int (6 : Int32))] [(.int (1 : Int32)), (.int w6)])) (fun t k => XS.iconst X15.here hx rfl (hb hby d5_13) k) ?_
          by_cases hc14_17 : w6 = (1 : Int32)
          · skip
            refine own_step (B := T15.setTop (mkF m 17 #[.val (.ref b0), .val (.int (9 : Int32)), .val (.int (6 : Int32))] [])) (fun t k => XS.icmpNo X15.here hx rfl (hb hby d5_14) rfl (teq hc14_17).2 k) ?_
            refine own_step (B := T15.setTop (mkF m 18 #[.val (.ref b0), .val (.int (9 : Int32)), .val (.int (6 : Int32))] [(.ref b0)])) (fun t k => XS.aloadN X15.here hx rfl (hb hby d5_17) rfl rfl k) ?_
            obtain ⟨T18, X18, e18, st18⟩ := getF X15 hx hZ hown (host := "") (Or.inl (hw _ (List.mem_of_getElem? (i := 28) rfl))) Via.refl e15 F_steps_b0 (g := (mkF m 18 #[.val (.ref b0), .val (.int (9 : Int32)), .val (.int (6 : Int32))] [(.ref b0)])) rfl rfl (hb hby d5_18)
            refine own_step (B := T18.setTop (mkF m 21 #[.val (.ref b0), .val (.int (9 : Int32)), .val (.int (6 : Int32))] [(.ref sa)])) (fun t k => st18 t k) ?_
            refine own_step (B := T18.setTop (mkF m 22 #[.val (.ref b0), .val (.int (9 : Int32)), .val (.int (6 : Int32))] [(.int (6 : Int32)), (.ref sa)])) (fun t k => XS.iloadN X18.here hx rfl (hb hby d5_21) rfl k) ?_
            refine own_step (B := T18.setTop (mkF m 23 #[.val (.ref b0), .val (.int (9 : Int32)), .val (.int (6 : Int32))] [(.int (1 : Int32)), (.int (6 : Int32)), (.ref sa)])) (fun t k => XS.iconst X18.here hx rfl (hb hby d5_22) k) ?_
            refine own_step (B := T18.setTop (mkF m 24 #[.val (.ref b0), .val (.int (9 : Int32)), .val (.int (6 : Int32))] [(.int (7 : Int32)), (.ref sa)])) (fun t k => XS.iadd X18.here hx rfl (hb hby d5_23) rfl k) ?_
            have Vo_19 := V_sa
            obtain ⟨cl_19, Ar_19, q_19, S_19, M_19, H_19, G_19⟩ := Vo_19
            refine own_step (B := T18.setTop (mkF m 25 #[.val (.ref b0), .val (.int (9 : Int32)), .val (.int (6 : Int32))] [(.int w7)])) (fun t k => X18.iaload hx (j := (7 : Int32)) (v := (.int w7)) (by rw [e18]; exact Ar_19.1) (State.isArrayOf_alike hZ.alike Ar_19.2.1) Ar_19.2.2 (inb_of S_19 ⟨by decide, by decide⟩) (Has.at H_19 (inb_of S_19 ⟨by decide, by decide⟩) rfl) (g := (mkF m 24 #[.val (.ref b0), .val (.int (9 : Int32)), .val (.int (6 : Int32))] [(.int (7 : Int32)), (.ref sa)])) rfl rfl (hb hby d5_24) t k) ?_
            refine own_step (B := T18.setTop (mkF m 26 #[.val (.ref b0), .val (.int (9 : Int32)), .val (.int (6 : Int32))] [(.ref b0), (.int w7)])) (fun t k => XS.aloadN X18.here hx rfl (hb hby d5_25) rfl rfl k) ?_
            obtain ⟨T20, X20, e20, st20⟩ := getF X18 hx hZ hown (host := "") (Or.inl (hw _ (List.mem_of_getElem? (i := 28) rfl))) Via.refl e18 F_steps_b0 (g := (mkF m 26 #[.val (.ref b0), .val (.int (9 : Int32)), .val (.int (6 : Int32))] [(.ref b0), (.int w7)])) rfl rfl (hb hby d5_26)
            refine own_step (B := T20.setTop (mkF m 29 #[.val (.ref b0), .val (.int (9 : Int32)), .val (.int (6 : Int32))] [(.ref sa), (.int w7)])) (fun t k => st20 t k) ?_
            refine own_step (B := T20.setTop (mkF m 30 #[.val (.ref b0), .val (.int (9 : Int32)), .val (.int (6 : Int32))] [(.int (9 : Int32)), (.ref sa), (.int w7)])) (fun t k => XS.iloadN X20.here hx rfl (hb hby d5_29) rfl k) ?_
            refine own_step (B := T20.setTop (mkF m 31 #[.val (.ref b0), .val (.int (9 : Int32)), .val (.int (6 : Int32))] [(.int (1 : Int32)), (.int (9 : Int32)), (.ref sa), (.int w7)])) (fun t k => XS.iconst X20.here hx rfl (hb hby d5_30) k) ?_
            refine own_step (B := T20.setTop (mkF m 32 #[.val (.ref b0), .val (.int (9 : Int32)), .val (.int (6 : Int32))] [(.int (10 : Int32)), (.ref sa), (.int w7)])) (fun t k => XS.iadd X20.here hx rfl (hb hby d5_31) rfl k) ?_
            have Vo_21 := V_sa
            obtain ⟨cl_21, Ar_21, q_21, S_21, M_21, H_21, G_21⟩ := Vo_21
            refine own_step (B := T20.setTop (mkF m 33 #[.val (.ref b0), .val (.int (9 : Int32)), .val (.int (6 : Int32))] [(.int w10), (.int w7)])) (fun t k => X20.iaload hx (j := (10 : Int32)) (v := (.int w10)) (by rw [e20]; exact Ar_21.1) (State.isArrayOf_alike hZ.alike Ar_21.2.1) Ar_21.2.2 (inb_of S_21 ⟨by decide, by decide⟩) (Has.at H_21 (inb_of S_21 ⟨by decide, by decide⟩) rfl) (g := (mkF m 32 #[.val (.ref b0), .val (.int (9 : Int32)), .val (.int (6 : Int32))] [(.int (10 : Int32)), (.ref sa), (.int w7)])) rfl rfl (hb hby d5_32) t k) ?_
            by_cases hc33_22 : w7 = w10
            · skip
              refine own_step (B := T20.setTop (mkF m 36 #[.val (.ref b0), .val (.int (9 : Int32)), .val (.int (6 : Int32))] [])) (fun t k => XS.icmpNo X20.here hx rfl (hb hby d5_33) rfl (teq hc33_22).2 k) ?_
              refine own_step (B := T20.setTop (mkF m 37 #[.val (.ref b0), .val (.int (9 : Int32)), .val (.int (6 : Int32))] [(.int (0 : Int32))])) (fun t k => XS.iconst X20.here hx rfl (hb hby d5_36) k) ?_
              exact own_retN X20 hx hlk (t := .boolean) Bd.returns (by simp) (hb hby d5_37) (by decide) (by decide) (by have hh : (own_ex3 (own_w w0 w1 w10) (own_w w3 w4 w10) (own_w w6 w7 w10)) = (0 : Int32) := (by simp [own_w, own_ex3, hc14, hc33, hc14_9, hc33_14, hc14_17, hc33_22]); exact ⟨by rw [hh]; rfl, N0, e20⟩)
            · skip
              refine own_step (B := T20.setTop (mkF m 38 #[.val (.ref b0), .val (.int (9 : Int32)), .val (.int (6 : Int32))] [])) (fun t k => XS.icmpYes X20.here hx rfl (pc0 := 33) (pc' := 38) rfl (hb hby d5_33) rfl (feq hc33_22).2 (by decide) (by decide) k) ?_
              refine own_step (B := T20.setTop (mkF m 41 #[.val (.ref b0), .val (.int (9 : Int32)), .val (.int (9 : Int32))] [])) (fun t k => XS.iinc X20.here hx rfl (hb hby d5_38) rfl (l' := #[.val (.ref b0), .val (.int (9 : Int32)), .val (.int (9 : Int32))]) rfl k) ?_
              refine own_step (B := T20.setTop (mkF m 2 #[.val (.ref b0), .val (.int (9 : Int32)), .val (.int (9 : Int32))] [])) (fun t k => XS.goto X20.here hx rfl (pc0 := 41) (pc' := 2) rfl (hb hby d5_41) (by decide) (by decide) k) ?_
              refine own_step (B := T20.setTop (mkF m 3 #[.val (.ref b0), .val (.int (9 : Int32)), .val (.int (9 : Int32))] [(.int (9 : Int32))])) (fun t k => XS.iloadN X20.here hx rfl (hb hby d5_2) rfl k) ?_
              refine own_step (B := T20.setTop (mkF m 4 #[.val (.ref b0), .val (.int (9 : Int32)), .val (.int (9 : Int32))] [(.int (9 : Int32)), (.int (9 : Int32))])) (fun t k => XS.iloadN X20.here hx rfl (hb hby d5_3) rfl k) ?_
              refine own_step (B := T20.setTop (mkF m 44 #[.val (.ref b0), .val (.int (9 : Int32)), .val (.int (9 : Int32))] [])) (fun t k => XS.icmpYes X20.here hx rfl (pc0 := 4) (pc' := 44) rfl (hb hby d5_4) rfl (flt (by decide)).2.1 (by decide) (by decide) k) ?_
              refine own_step (B := T20.setTop (mkF m 45 #[.val (.ref b0), .val (.int (9 : Int32)), .val (.int (9 : Int32))] [(.int (1 : Int32))])) (fun t k => XS.iconst X20.here hx rfl (hb hby d5_44) k) ?_
              exact own_retN X20 hx hlk (t := .boolean) Bd.returns (by simp) (hb hby d5_45) (by decide) (by decide) (by have hh : (own_ex3 (own_w w0 w1 w10) (own_w w3 w4 w10) (own_w w6 w7 w10)) = (1 : Int32) := (by simp [own_w, own_ex3, hc14, hc33, hc14_9, hc33_14, hc14_17, hc33_22]); exact ⟨by rw [hh]; rfl, N0, e20⟩)
          · skip
            refine own_step (B := T15.setTop (mkF m 38 #[.val (.ref b0), .val (.int (9 : Int32)), .val (.int (6 : Int32))] [])) (fun t k => XS.icmpYes X15.here hx rfl (pc0 := 14) (pc' := 38) rfl (hb hby d5_14) rfl (feq hc14_17).2 (by decide) (by decide) k) ?_
            refine own_step (B := T15.setTop (mkF m 41 #[.val (.ref b0), .val (.int (9 : Int32)), .val (.int (9 : Int32))] [])) (fun t k => XS.iinc X15.here hx rfl (hb hby d5_38) rfl (l' := #[.val (.ref b0), .val (.int (9 : Int32)), .val (.int (9 : Int32))]) rfl k) ?_
            refine own_step (B := T15.setTop (mkF m 2 #[.val (.ref b0), .val (.int (9 : Int32)), .val (.int (9 : Int32))] [])) (fun t k => XS.goto X15.here hx rfl (pc0 := 41) (pc' := 2) rfl (hb hby d5_41) (by decide) (by decide) k) ?_
            refine own_step (B := T15.setTop (mkF m 3 #[.val (.ref b0), .val (.int (9 : Int32)), .val (.int (9 : Int32))] [(.int (9 : Int32))])) (fun t k => XS.iloadN X15.here hx rfl (hb hby d5_2) rfl k) ?_
            refine own_step (B := T15.setTop (mkF m 4 #[.val (.ref b0), .val (.int (9 : Int32)), .val (.int (9 : Int32))] [(.int (9 : Int32)), (.int (9 : Int32))])) (fun t k => XS.iloadN X15.here hx rfl (hb hby d5_3) rfl k) ?_
            refine own_step (B := T15.setTop (mkF m 44 #[.val (.ref b0), .val (.int (9 : Int32)), .val (.int (9 : Int32))] [])) (fun t k => XS.icmpYes X15.here hx rfl (pc0 := 4) (pc' := 44) rfl (hb hby d5_4) rfl (flt (by decide)).2.1 (by decide) (by decide) k) ?_
            refine own_step (B := T15.setTop (mkF m 45 #[.val (.ref b0), .val (.int (9 : Int32)), .val (.int (9 : Int32))] [(.int (1 : Int32))])) (fun t k => XS.iconst X15.here hx rfl (hb hby d5_44) k) ?_
            exact own_retN X15 hx hlk (t := .boolean) Bd.returns (by simp) (hb hby d5_45) (by decide) (by decide) (by have hh : (own_ex3 (own_w w0 w1 w10) (own_w w3 w4 w10) (own_w w6 w7 w10)) = (1 : Int32) := (by simp [own_w, own_ex3, hc14, hc33, hc14_9, hc33_14, hc14_17]); exact ⟨by rw [hh]; rfl, N0, e15⟩)
      · skip
        refine own_step (B := T7.setTop (mkF m 38 #[.val (.ref b0), .val (.int (9 : Int32)), .val (.int (3 : Int32))] [])) (fun t k => XS.icmpYes X7.here hx rfl (pc0 := 14) (pc' := 38) rfl (hb hby d5_14) rfl (feq hc14_9).2 (by decide) (by decide) k) ?_
        refine own_step (B := T7.setTop (mkF m 41 #[.val (.ref b0), .val (.int (9 : Int32)), .val (.int (6 : Int32))] [])) (fun t k => XS.iinc X7.here hx rfl (hb hby d5_38) rfl (l' := #[.val (.ref b0), .val (.int (9 : Int32)), .val (.int (6 : Int32))]) rfl k) ?_
        refine own_step (B := T7.setTop (mkF m 2 #[.val (.ref b0), .val (.int (9 : Int32)), .val (.int (6 : Int32))] [])) (fun t k => XS.goto X7.here hx rfl (pc0 := 41) (pc' := 2) rfl (hb hby d5_41) (by decide) (by decide) k) ?_
        refine own_step (B := T7.setTop (mkF m 3 #[.val (.ref b0), .val (.int (9 : Int32)), .val (.int (6 : Int32))] [(.int (6 : Int32))])) (fun t k => XS.iloadN X7.here hx rfl (hb hby d5_2) rfl k) ?_
        refine own_step (B := T7.setTop (mkF m 4 #[.val (.ref b0), .val (.int (9 : Int32)), .val (.int (6 : Int32))] [(.int (9 : Int32)), (.int (6 : Int32))])) (fun t k => XS.iloadN X7.here hx rfl (hb hby d5_3) rfl k) ?_
        refine own_step (B := T7.setTop (mkF m 7 #[.val (.ref b0), .val (.int (9 : Int32)), .val (.int (6 : Int32))] [])) (fun t k => XS.icmpNo X7.here hx rfl (hb hby d5_4) rfl (tlt (by decide)).2.1 k) ?_
        refine own_step (B := T7.setTop (mkF m 8 #[.val (.ref b0), .val (.int (9 : Int32)), .val (.int (6 : Int32))] [(.ref b0)])) (fun t k => XS.aloadN X7.here hx rfl (hb hby d5_7) rfl rfl k) ?_
        obtain ⟨T23, X23, e23, st23⟩ := getF X7 hx hZ hown (host := "") (Or.inl (hw _ (List.mem_of_getElem? (i := 28) rfl))) Via.refl e7 F_steps_b0 (g := (mkF m 8 #[.val (.ref b0), .val (.int (9 : Int32)), .val (.int (6 : Int32))] [(.ref b0)])) rfl rfl (hb hby d5_8)
        refine own_step (B := T23.setTop (mkF m 11 #[.val (.ref b0), .val (.int (9 : Int32)), .val (.int (6 : Int32))] [(.ref sa)])) (fun t k => st23 t k) ?_
        refine own_step (B := T23.setTop (mkF m 12 #[.val (.ref b0), .val (.int (9 : Int32)), .val (.int (6 : Int32))] [(.int (6 : Int32)), (.ref sa)])) (fun t k => XS.iloadN X23.here hx rfl (hb hby d5_11) rfl k) ?_
        have Vo_24 := V_sa
        obtain ⟨cl_24, Ar_24, q_24, S_24, M_24, H_24, G_24⟩ := Vo_24
        refine own_step (B := T23.setTop (mkF m 13 #[.val (.ref b0), .val (.int (9 : Int32)), .val (.int (6 : Int32))] [(.int w6)])) (fun t k => X23.iaload hx (j := (6 : Int32)) (v := (.int w6)) (by rw [e23]; exact Ar_24.1) (State.isArrayOf_alike hZ.alike Ar_24.2.1) Ar_24.2.2 (inb_of S_24 ⟨by decide, by decide⟩) (Has.at H_24 (inb_of S_24 ⟨by decide, by decide⟩) rfl) (g := (mkF m 12 #[.val (.ref b0), .val (.int (9 : Int32)), .val (.int (6 : Int32))] [(.int (6 : Int32)), (.ref sa)])) rfl rfl (hb hby d5_12) t k) ?_
        refine own_step (B := T23.setTop (mkF m 14 #[.val (.ref b0), .val (.int (9 : Int32)), .val (.int (6 : Int32))] [(.int (1 : Int32)), (.int w6)])) (fun t k => XS.iconst X23.here hx rfl (hb hby d5_13) k) ?_
        by_cases hc14_25 : w6 = (1 : Int32)
        · skip
          refine own_step (B := T23.setTop (mkF m 17 #[.val (.ref b0), .val (.int (9 : Int32)), .val (.int (6 : Int32))] [])) (fun t k => XS.icmpNo X23.here hx rfl (hb hby d5_14) rfl (teq hc14_25).2 k) ?_
          refine own_step (B := T23.setTop (mkF m 18 #[.val (.ref b0), .val (.int (9 : Int32)), .val (.int (6 : Int32))] [(.ref b0)])) (fun t k => XS.aloadN X23.here hx rfl (hb hby d5_17) rfl rfl k) ?_
          obtain ⟨T26, X26, e26, st26⟩ := getF X23 hx hZ hown (host := "") (Or.inl (hw _ (List.mem_of_getElem? (i := 28) rfl))) Via.refl e23 F_steps_b0 (g := (mkF m 18 #[.val (.ref b0), .val (.int (9 : Int32)), .val (.int (6 : Int32))] [(.ref b0)])) rfl rfl (hb hby d5_18)
          refine own_step (B := T26.setTop (mkF m 21 #[.val (.ref b0), .val (.int (9 : Int32)), .val (.int (6 : Int32))] [(.ref sa)])) (fun t k => st26 t k) ?_
          refine own_step (B := T26.setTop (mkF m 22 #[.val (.ref b0), .val (.int (9 : Int32)), .val (.int (6 : Int32))] [(.int (6 : Int32)), (.ref sa)])) (fun t k => XS.iloadN X26.here hx rfl (hb hby d5_21) rfl k) ?_
          refine own_step (B := T26.setTop (mkF m 23 #[.val (.ref b0), .val (.int (9 : Int32)), .val (.int (6 : Int32))] [(.int (1 : Int32)), (.int (6 : Int32)), (.ref sa)])) (fun t k => XS.iconst X26.here hx rfl (hb hby d5_22) k) ?_
          refine own_step (B := T26.setTop (mkF m 24 #[.val (.ref b0), .val (.int (9 : Int32)), .val (.int (6 : Int32))] [(.int (7 : Int32)), (.ref sa)])) (fun t k => XS.iadd X26.here hx rfl (hb hby d5_23) rfl k) ?_
          have Vo_27 := V_sa
          obtain ⟨cl_27, Ar_27, q_27, S_27, M_27, H_27, G_27⟩ := Vo_27
          refine own_step (B := T26.setTop (mkF m 25 #[.val (.ref b0), .val (.int (9 : Int32)), .val (.int (6 : Int32))] [(.int w7)])) (fun t k => X26.iaload hx (j := (7 : Int32)) (v := (.int w7)) (by rw [e26]; exact Ar_27.1) (State.isArrayOf_alike hZ.alike Ar_27.2.1) Ar_27.2.2 (inb_of S_27 ⟨by decide, by decide⟩) (Has.at H_27 (inb_of S_27 ⟨by decide, by decide⟩) rfl) (g := (mkF m 24 #[.val (.ref b0), .val (.int (9 : Int32)), .val (.int (6 : Int32))] [(.int (7 : Int32)), (.ref sa)])) rfl rfl (hb hby d5_24) t k) ?_
          refine own_step (B := T26.setTop (mkF m 26 #[.val (.ref b0), .val (.int (9 : Int32)), .val (.int (6 : Int32))] [(.ref b0), (.int w7)])) (fun t k => XS.aloadN X26.here hx rfl (hb hby d5_25) rfl rfl k) ?_
          obtain ⟨T28, X28, e28, st28⟩ := getF X26 hx hZ hown (host := "") (Or.inl (hw _ (List.mem_of_getElem? (i := 28) rfl))) Via.refl e26 F_steps_b0 (g := (mkF m 26 #[.val (.ref b0), .val (.int (9 : Int32)), .val (.int (6 : Int32))] [(.ref b0), (.int w7)])) rfl rfl (hb hby d5_26)
          refine own_step (B := T28.setTop (mkF m 29 #[.val (.ref b0), .val (.int (9 : Int32)), .val (.int (6 : Int32))] [(.ref sa), (.int w7)])) (fun t k => st28 t k) ?_
          refine own_step (B := T28.setTop (mkF m 30 #[.val (.ref b0), .val (.int (9 : Int32)), .val (.int (6 : Int32))] [(.int (9 : Int32)), (.ref sa), (.int w7)])) (fun t k => XS.iloadN X28.here hx rfl (hb hby d5_29) rfl k) ?_
          refine own_step (B := T28.setTop (mkF m 31 #[.val (.ref b0), .val (.int (9 : Int32)), .val (.int (6 : Int32))] [(.int (1 : Int32)), (.int (9 : Int32)), (.ref sa), (.int w7)])) (fun t k => XS.iconst X28.here hx rfl (hb hby d5_30) k) ?_
          refine own_step (B := T28.setTop (mkF m 32 #[.val (.ref b0), .val (.int (9 : Int32)), .val (.int (6 : Int32))] [(.int (10 : Int32)), (.ref sa), (.int w7)])) (fun t k => XS.iadd X28.here hx rfl (hb hby d5_31) rfl k) ?_
          have Vo_29 := V_sa
          obtain ⟨cl_29, Ar_29, q_29, S_29, M_29, H_29, G_29⟩ := Vo_29
          refine own_step (B := T28.setTop (mkF m 33 #[.val (.ref b0), .val (.int (9 : Int32)), .val (.int (6 : Int32))] [(.int w10), (.int w7)])) (fun t k => X28.iaload hx (j := (10 : Int32)) (v := (.int w10)) (by rw [e28]; exact Ar_29.1) (State.isArrayOf_alike hZ.alike Ar_29.2.1) Ar_29.2.2 (inb_of S_29 ⟨by decide, by decide⟩) (Has.at H_29 (inb_of S_29 ⟨by decide, by decide⟩) rfl) (g := (mkF m 32 #[.val (.ref b0), .val (.int (9 : Int32)), .val (.int (6 : Int32))] [(.int (10 : Int32)), (.ref sa), (.int w7)])) rfl rfl (hb hby d5_32) t k) ?_
          by_cases hc33_30 : w7 = w10
          · skip
            refine own_step (B := T28.setTop (mkF m 36 #[.val (.ref b0), .val (.int (9 : Int32)), .val (.int (6 : Int32))] [])) (fun t k => XS.icmpNo X28.here hx rfl (hb hby d5_33) rfl (teq hc33_30).2 k) ?_
            refine own_step (B := T28.setTop (mkF m 37 #[.val (.ref b0), .val (.int (9 : Int32)), .val (.int (6 : Int32))] [(.int (0 : Int32))])) (fun t k => XS.iconst X28.here hx rfl (hb hby d5_36) k) ?_
            exact own_retN X28 hx hlk (t := .boolean) Bd.returns (by simp) (hb hby d5_37) (by decide) (by decide) (by have hh : (own_ex3 (own_w w0 w1 w10) (own_w w3 w4 w10) (own_w w6 w7 w10)) = (0 : Int32) := (by simp [own_w, own_ex3, hc14, hc33, hc14_9, hc14_25, hc33_30]); exact ⟨by rw [hh]; rfl, N0, e28⟩)
          · skip
            refine own_step (B := T28.setTop (mkF m 38 #[.val (.ref b0), .val (.int (9 : Int32)), .val (.int (6 : Int32))] [])) (fun t k => XS.icmpYes X28.here hx rfl (pc0 := 33) (pc' := 38) rfl (hb hby d5_33) rfl (feq hc33_30).2 (by decide) (by decide) k) ?_
            refine own_step (B := T28.setTop (mkF m 41 #[.val (.ref b0), .val (.int (9 : Int32)), .val (.int (9 : Int32))] [])) (fun t k => XS.iinc X28.here hx rfl (hb hby d5_38) rfl (l' := #[.val (.ref b0), .val (.int (9 : Int32)), .val (.int (9 : Int32))]) rfl k) ?_
            refine own_step (B := T28.setTop (mkF m 2 #[.val (.ref b0), .val (.int (9 : Int32)), .val (.int (9 : Int32))] [])) (fun t k => XS.goto X28.here hx rfl (pc0 := 41) (pc' := 2) rfl (hb hby d5_41) (by decide) (by decide) k) ?_
            refine own_step (B := T28.setTop (mkF m 3 #[.val (.ref b0), .val (.int (9 : Int32)), .val (.int (9 : Int32))] [(.int (9 : Int32))])) (fun t k => XS.iloadN X28.here hx rfl (hb hby d5_2) rfl k) ?_
            refine own_step (B := T28.setTop (mkF m 4 #[.val (.ref b0), .val (.int (9 : Int32)), .val (.int (9 : Int32))] [(.int (9 : Int32)), (.int (9 : Int32))])) (fun t k => XS.iloadN X28.here hx rfl (hb hby d5_3) rfl k) ?_
            refine own_step (B := T28.setTop (mkF m 44 #[.val (.ref b0), .val (.int (9 : Int32)), .val (.int (9 : Int32))] [])) (fun t k => XS.icmpYes X28.here hx rfl (pc0 := 4) (pc' := 44) rfl (hb hby d5_4) rfl (flt (by decide)).2.1 (by decide) (by decide) k) ?_
            refine own_step (B := T28.setTop (mkF m 45 #[.val (.ref b0), .val (.int (9 : Int32)), .val (.int (9 : Int32))] [(.int (1 : Int32))])) (fun t k => XS.iconst X28.here hx rfl (hb hby d5_44) k) ?_
            exact own_retN X28 hx hlk (t := .boolean) Bd.returns (by simp) (hb hby d5_45) (by decide) (by decide) (by have hh : (own_ex3 (own_w w0 w1 w10) (own_w w3 w4 w10) (own_w w6 w7 w10)) = (1 : Int32) := (by simp [own_w, own_ex3, hc14, hc33, hc14_9, hc14_25, hc33_30]); exact ⟨by rw [hh]; rfl, N0, e28⟩)
        · skip
          refine own_step (B := T23.setTop (mkF m 38 #[.val (.ref b0), .val (.int (9 : Int32)), .val (.int (6 : Int32))] [])) (fun t k => XS.icmpYes X23.here hx rfl (pc0 := 14) (pc' := 38) rfl (hb hby d5_14) rfl (feq hc14_25).2 (by decide) (by decide) k) ?_
          refine own_step (B := T23.setTop (mkF m 41 #[.val (.ref b0), .val (.int (9 : Int32)), .val (.int (9 : Int32))] [])) (fun t k => XS.iinc X23.here hx rfl (hb hby d5_38) rfl (l' := #[.val (.ref b0), .val (.int (9 : Int32)), .val (.int (9 : Int32))]) rfl k) ?_
          refine own_step (B := T23.setTop (mkF m 2 #[.val (.ref b0), .val (.int (9 : Int32)), .val (.int (9 : Int32))] [])) (fun t k => XS.goto X23.here hx rfl (pc0 := 41) (pc' := 2) rfl (hb hby d5_41) (by decide) (by decide) k) ?_
          refine own_step (B := T23.setTop (mkF m 3 #[.val (.ref b0), .val (.int (9 : Int32)), .val (.int (9 : Int32))] [(.int (9 : Int32))])) (fun t k => XS.iloadN X23.here hx rfl (hb hby d5_2) rfl k) ?_
          refine own_step (B := T23.setTop (mkF m 4 #[.val (.ref b0), .val (.int (9 : Int32)), .val (.int (9 : Int32))] [(.int (9 : Int32)), (.int (9 : Int32))])) (fun t k => XS.iloadN X23.here hx rfl (hb hby d5_3) rfl k) ?_
          refine own_step (B := T23.setTop (mkF m 44 #[.val (.ref b0), .val (.int (9 : Int32)), .val (.int (9 : Int32))] [])) (fun t k => XS.icmpYes X23.here hx rfl (pc0 := 4) (pc' := 44) rfl (hb hby d5_4) rfl (flt (by decide)).2.1 (by decide) (by decide) k) ?_
          refine own_step (B := T23.setTop (mkF m 45 #[.val (.ref b0), .val (.int (9 : Int32)), .val (.int (9 : Int32))] [(.int (1 : Int32))])) (fun t k => XS.iconst X23.here hx rfl (hb hby d5_44) k) ?_
          exact own_retN X23 hx hlk (t := .boolean) Bd.returns (by simp) (hb hby d5_45) (by decide) (by decide) (by have hh : (own_ex3 (own_w w0 w1 w10) (own_w w3 w4 w10) (own_w w6 w7 w10)) = (1 : Int32) := (by simp [own_w, own_ex3, hc14, hc33, hc14_9, hc14_25]); exact ⟨by rw [hh]; rfl, N0, e23⟩)
  · skip
    refine own_step (B := T1.setTop (mkF m 38 #[.val (.ref b0), .val (.int (9 : Int32)), .val (.int (0 : Int32))] [])) (fun t k => XS.icmpYes X1.here hx rfl (pc0 := 14) (pc' := 38) rfl (hb hby d5_14) rfl (feq hc14).2 (by decide) (by decide) k) ?_
    refine own_step (B := T1.setTop (mkF m 41 #[.val (.ref b0), .val (.int (9 : Int32)), .val (.int (3 : Int32))] [])) (fun t k => XS.iinc X1.here hx rfl (hb hby d5_38) rfl (l' := #[.val (.ref b0), .val (.int (9 : Int32)), .val (.int (3 : Int32))]) rfl k) ?_
    refine own_step (B := T1.setTop (mkF m 2 #[.val (.ref b0), .val (.int (9 : Int32)), .val (.int (3 : Int32))] [])) (fun t k => XS.goto X1.here hx rfl (pc0 := 41) (pc' := 2) rfl (hb hby d5_41) (by decide) (by decide) k) ?_
    refine own_step (B := T1.setTop (mkF m 3 #[.val (.ref b0), .val (.int (9 : Int32)), .val (.int (3 : Int32))] [(.int (3 : Int32))])) (fun t k => XS.iloadN X1.here hx rfl (hb hby d5_2) rfl k) ?_
    refine own_step (B := T1.setTop (mkF m 4 #[.val (.ref b0), .val (.int (9 : Int32)), .val (.int (3 : Int32))] [(.int (9 : Int32)), (.int (3 : Int32))])) (fun t k => XS.iloadN X1.here hx rfl (hb hby d5_3) rfl k) ?_
    refine own_step (B := T1.setTop (mkF m 7 #[.val (.ref b0), .val (.int (9 : Int32)), .val (.int (3 : Int32))] [])) (fun t k => XS.icmpNo X1.here hx rfl (hb hby d5_4) rfl (tlt (by decide)).2.1 k) ?_
    refine own_step (B := T1.setTop (mkF m 8 #[.val (.ref b0), .val (.int (9 : Int32)), .val (.int (3 : Int32))] [(.ref b0)])) (fun t k => XS.aloadN X1.here hx rfl (hb hby d5_7) rfl rfl k) ?_
    obtain ⟨T31, X31, e31, st31⟩ := getF X1 hx hZ hown (host := "") (Or.inl (hw _ (List.mem_of_getElem? (i := 28) rfl))) Via.refl e1 F_steps_b0 (g := (mkF m 8 #[.val (.ref b0), .val (.int (9 : Int32)), .val (.int (3 : Int32))] [(.ref b0)])) rfl rfl (hb hby d5_8)
    refine own_step (B := T31.setTop (mkF m 11 #[.val (.ref b0), .val (.int (9 : Int32)), .val (.int (3 : Int32))] [(.ref sa)])) (fun t k => st31 t k) ?_
    refine own_step (B := T31.setTop (mkF m 12 #[.val (.ref b0), .val (.int (9 : Int32)), .val (.int (3 : Int32))] [(.int (3 : Int32)), (.ref sa)])) (fun t k => XS.iloadN X31.here hx rfl (hb hby d5_11) rfl k) ?_
    have Vo_32 := V_sa
    obtain ⟨cl_32, Ar_32, q_32, S_32, M_32, H_32, G_32⟩ := Vo_32
    refine own_step (B := T31.setTop (mkF m 13 #[.val (.ref b0), .val (.int (9 : Int32)), .val (.int (3 : Int32))] [(.int w3)])) (fun t k => X31.iaload hx (j := (3 : Int32)) (v := (.int w3)) (by rw [e31]; exact Ar_32.1) (State.isArrayOf_alike hZ.alike Ar_32.2.1) Ar_32.2.2 (inb_of S_32 ⟨by decide, by decide⟩) (Has.at H_32 (inb_of S_32 ⟨by decide, by decide⟩) rfl) (g := (mkF m 12 #[.val (.ref b0), .val (.int (9 : Int32)), .val (.int (3 : Int32))] [(.int (3 : Int32)), (.ref sa)])) rfl rfl (hb hby d5_12) t k) ?_
    refine own_step (B := T31.setTop (mkF m 14 #[.val (.ref b0), .val (.int (9 : Int32)), .val (.int (3 : Int32))] [(.int (1 : Int32)), (.int w3)])) (fun t k => XS.iconst X31.here hx rfl (hb hby d5_13) k) ?_
    by_cases hc14_33 : w3 = (1 : Int32)
    · skip
      refine own_step (B := T31.setTop (mkF m 17 #[.val (.ref b0), .val (.int (9 : Int32)), .val (.int (3 : Int32))] [])) (fun t k => XS.icmpNo X31.here hx rfl (hb hby d5_14) rfl (teq hc14_33).2 k) ?_
      refine own_step (B := T31.setTop (mkF m 18 #[.val (.ref b0), .val (.int (9 : Int32)), .val (.int (3 : Int32))] [(.ref b0)])) (fun t k => XS.aloadN X31.here hx rfl (hb hby d5_17) rfl rfl k) ?_
      obtain ⟨T34, X34, e34, st34⟩ := getF X31 hx hZ hown (host := "") (Or.inl (hw _ (List.mem_of_getElem? (i := 28) rfl))) Via.refl e31 F_steps_b0 (g := (mkF m 18 #[.val (.ref b0), .val (.int (9 : Int32)), .val (.int (3 : Int32))] [(.ref b0)])) rfl rfl (hb hby d5_18)
      refine own_step (B := T34.setTop (mkF m 21 #[.val (.ref b0), .val (.int (9 : Int32)), .val (.int (3 : Int32))] [(.ref sa)])) (fun t k => st34 t k) ?_
      refine own_step (B := T34.setTop (mkF m 22 #[.val (.ref b0), .val (.int (9 : Int32)), .val (.int (3 : Int32))] [(.int (3 : Int32)), (.ref sa)])) (fun t k => XS.iloadN X34.here hx rfl (hb hby d5_21) rfl k) ?_
      refine own_step (B := T34.setTop (mkF m 23 #[.val (.ref b0), .val (.int (9 : Int32)), .val (.int (3 : Int32))] [(.int (1 : Int32)), (.int (3 : Int32)), (.ref sa)])) (fun t k => XS.iconst X34.here hx rfl (hb hby d5_22) k) ?_
      refine own_step (B := T34.setTop (mkF m 24 #[.val (.ref b0), .val (.int (9 : Int32)), .val (.int (3 : Int32))] [(.int (4 : Int32)), (.ref sa)])) (fun t k => XS.iadd X34.here hx rfl (hb hby d5_23) rfl k) ?_
      have Vo_35 := V_sa
      obtain ⟨cl_35, Ar_35, q_35, S_35, M_35, H_35, G_35⟩ := Vo_35
      refine own_step (B := T34.setTop (mkF m 25 #[.val (.ref b0), .val (.int (9 : Int32)), .val (.int (3 : Int32))] [(.int w4)])) (fun t k => X34.iaload hx (j := (4 : Int32)) (v := (.int w4)) (by rw [e34]; exact Ar_35.1) (State.isArrayOf_alike hZ.alike Ar_35.2.1) Ar_35.2.2 (inb_of S_35 ⟨by decide, by decide⟩) (Has.at H_35 (inb_of S_35 ⟨by decide, by decide⟩) rfl) (g := (mkF m 24 #[.val (.ref b0), .val (.int (9 : Int32)), .val (.int (3 : Int32))] [(.int (4 : Int32)), (.ref sa)])) rfl rfl (hb hby d5_24) t k) ?_
      refine own_step (B := T34.setTop (mkF m 26 #[.val (.ref b0), .val (.int (9 : Int32)), .val (.int (3 : Int32))] [(.ref b0), (.int w4)])) (fun t k => XS.aloadN X34.here hx rfl (hb hby d5_25) rfl rfl k) ?_
      obtain ⟨T36, X36, e36, st36⟩ := getF X34 hx hZ hown (host := "") (Or.inl (hw _ (List.mem_of_getElem? (i := 28) rfl))) Via.refl e34 F_steps_b0 (g := (mkF m 26 #[.val (.ref b0), .val (.int (9 : Int32)), .val (.int (3 : Int32))] [(.ref b0), (.int w4)])) rfl rfl (hb hby d5_26)
      refine own_step (B := T36.setTop (mkF m 29 #[.val (.ref b0), .val (.int (9 : Int32)), .val (.int (3 : Int32))] [(.ref sa), (.int w4)])) (fun t k => st36 t k) ?_
      refine own_step (B := T36.setTop (mkF m 30 #[.val (.ref b0), .val (.int (9 : Int32)), .val (.int (3 : Int32))] [(.int (9 : Int32)), (.ref sa), (.int w4)])) (fun t k => XS.iloadN X36.here hx rfl (hb hby d5_29) rfl k) ?_
      refine own_step (B := T36.setTop (mkF m 31 #[.val (.ref b0), .val (.int (9 : Int32)), .val (.int (3 : Int32))] [(.int (1 : Int32)), (.int (9 : Int32)), (.ref sa), (.int w4)])) (fun t k => XS.iconst X36.here hx rfl (hb hby d5_30) k) ?_
      refine own_step (B := T36.setTop (mkF m 32 #[.val (.ref b0), .val (.int (9 : Int32)), .val (.int (3 : Int32))] [(.int (10 : Int32)), (.ref sa), (.int w4)])) (fun t k => XS.iadd X36.here hx rfl (hb hby d5_31) rfl k) ?_
      have Vo_37 := V_sa
      obtain ⟨cl_37, Ar_37, q_37, S_37, M_37, H_37, G_37⟩ := Vo_37
      refine own_step (B := T36.setTop (mkF m 33 #[.val (.ref b0), .val (.int (9 : Int32)), .val (.int (3 : Int32))] [(.int w10), (.int w4)])) (fun t k => X36.iaload hx (j := (10 : Int32)) (v := (.int w10)) (by rw [e36]; exact Ar_37.1) (State.isArrayOf_alike hZ.alike Ar_37.2.1) Ar_37.2.2 (inb_of S_37 ⟨by decide, by decide⟩) (Has.at H_37 (inb_of S_37 ⟨by decide, by decide⟩) rfl) (g := (mkF m 32 #[.val (.ref b0), .val (.int (9 : Int32)), .val (.int (3 : Int32))] [(.int (10 : Int32)), (.ref sa), (.int w4)])) rfl rfl (hb hby d5_32) t k) ?_
      by_cases hc33 : w4 = w10
      · skip
        refine own_step (B := T36.setTop (mkF m 36 #[.val (.ref b0), .val (.int (9 : Int32)), .val (.int (3 : Int32))] [])) (fun t k => XS.icmpNo X36.here hx rfl (hb hby d5_33) rfl (teq hc33).2 k) ?_
        refine own_step (B := T36.setTop (mkF m 37 #[.val (.ref b0), .val (.int (9 : Int32)), .val (.int (3 : Int32))] [(.int (0 : Int32))])) (fun t k => XS.iconst X36.here hx rfl (hb hby d5_36) k) ?_
        exact own_retN X36 hx hlk (t := .boolean) Bd.returns (by simp) (hb hby d5_37) (by decide) (by decide) (by have hh : (own_ex3 (own_w w0 w1 w10) (own_w w3 w4 w10) (own_w w6 w7 w10)) = (0 : Int32) := (by simp [own_w, own_ex3, hc14, hc14_33, hc33]); exact ⟨by rw [hh]; rfl, N0, e36⟩)
      · skip
        refine own_step (B := T36.setTop (mkF m 38 #[.val (.ref b0), .val (.int (9 : Int32)), .val (.int (3 : Int32))] [])) (fun t k => XS.icmpYes X36.here hx rfl (pc0 := 33) (pc' := 38) rfl (hb hby d5_33) rfl (feq hc33).2 (by decide) (by decide) k) ?_
        refine own_step (B := T36.setTop (mkF m 41 #[.val (.ref b0), .val (.int (9 : Int32)), .val (.int (6 : Int32))] [])) (fun t k => XS.iinc X36.here hx rfl (hb hby d5_38) rfl (l' := #[.val (.ref b0), .val (.int (9 : Int32)), .val (.int (6 : Int32))]) rfl k) ?_
        refine own_step (B := T36.setTop (mkF m 2 #[.val (.ref b0), .val (.int (9 : Int32)), .val (.int (6 : Int32))] [])) (fun t k => XS.goto X36.here hx rfl (pc0 := 41) (pc' := 2) rfl (hb hby d5_41) (by decide) (by decide) k) ?_
        refine own_step (B := T36.setTop (mkF m 3 #[.val (.ref b0), .val (.int (9 : Int32)), .val (.int (6 : Int32))] [(.int (6 : Int32))])) (fun t k => XS.iloadN X36.here hx rfl (hb hby d5_2) rfl k) ?_
        refine own_step (B := T36.setTop (mkF m 4 #[.val (.ref b0), .val (.int (9 : Int32)), .val (.int (6 : Int32))] [(.int (9 : Int32)), (.int (6 : Int32))])) (fun t k => XS.iloadN X36.here hx rfl (hb hby d5_3) rfl k) ?_
        refine own_step (B := T36.setTop (mkF m 7 #[.val (.ref b0), .val (.int (9 : Int32)), .val (.int (6 : Int32))] [])) (fun t k => XS.icmpNo X36.here hx rfl (hb hby d5_4) rfl (tlt (by decide)).2.1 k) ?_
        refine own_step (B := T36.setTop (mkF m 8 #[.val (.ref b0), .val (.int (9 : Int32)), .val (.int (6 : Int32))] [(.ref b0)])) (fun t k => XS.aloadN X36.here hx rfl (hb hby d5_7) rfl rfl k) ?_
        obtain ⟨T38, X38, e38, st38⟩ := getF X36 hx hZ hown (host := "") (Or.inl (hw _ (List.mem_of_getElem? (i := 28) rfl))) Via.refl e36 F_steps_b0 (g := (mkF m 8 #[.val (.ref b0), .val (.int (9 : Int32)), .val (.int (6 : Int32))] [(.ref b0)])) rfl rfl (hb hby d5_8)
        refine own_step (B := T38.setTop (mkF m 11 #[.val (.ref b0), .val (.int (9 : Int32)), .val (.int (6 : Int32))] [(.ref sa)])) (fun t k => st38 t k) ?_
        refine own_step (B := T38.setTop (mkF m 12 #[.val (.ref b0), .val (.int (9 : Int32)), .val (.int (6 : Int32))] [(.int (6 : Int32)), (.ref sa)])) (fun t k => XS.iloadN X38.here hx rfl (hb hby d5_11) rfl k) ?_
        have Vo_39 := V_sa
        obtain ⟨cl_39, Ar_39, q_39, S_39, M_39, H_39, G_39⟩ := Vo_39
        refine own_step (B := T38.setTop (mkF m 13 #[.val (.ref b0), .val (.int (9 : Int32)), .val (.int (6 : Int32))] [(.int w6)])) (fun t k => X38.iaload hx (j := (6 : Int32)) (v := (.int w6)) (by rw [e38]; exact Ar_39.1) (State.isArrayOf_alike hZ.alike Ar_39.2.1) Ar_39.2.2 (inb_of S_39 ⟨by decide, by decide⟩) (Has.at H_39 (inb_of S_39 ⟨by decide, by decide⟩) rfl) (g := (mkF m 12 #[.val (.ref b0), .val (.int (9 : Int32)), .val (.int (6 : Int32))] [(.int (6 : Int32)), (.ref sa)])) rfl rfl (hb hby d5_12) t k) ?_
        refine own_step (B := T38.setTop (mkF m 14 #[.val (.ref b0), .val (.int (9 : Int32)), .val (.int (6 : Int32))] [(.int (1 : Int32)), (.int w6)])) (fun t k => XS.iconst X38.here hx rfl (hb hby d5_13) k) ?_
        by_cases hc14_40 : w6 = (1 : Int32)
        · skip
          refine own_step (B := T38.setTop (mkF m 17 #[.val (.ref b0), .val (.int (9 : Int32)), .val (.int (6 : Int32))] [])) (fun t k => XS.icmpNo X38.here hx rfl (hb hby d5_14) rfl (teq hc14_40).2 k) ?_
          refine own_step (B := T38.setTop (mkF m 18 #[.val (.ref b0), .val (.int (9 : Int32)), .val (.int (6 : Int32))] [(.ref b0)])) (fun t k => XS.aloadN X38.here hx rfl (hb hby d5_17) rfl rfl k) ?_
          obtain ⟨T41, X41, e41, st41⟩ := getF X38 hx hZ hown (host := "") (Or.inl (hw _ (List.mem_of_getElem? (i := 28) rfl))) Via.refl e38 F_steps_b0 (g := (mkF m 18 #[.val (.ref b0), .val (.int (9 : Int32)), .val (.int (6 : Int32))] [(.ref b0)])) rfl rfl (hb hby d5_18)
          refine own_step (B := T41.setTop (mkF m 21 #[.val (.ref b0), .val (.int (9 : Int32)), .val (.int (6 : Int32))] [(.ref sa)])) (fun t k => st41 t k) ?_
          refine own_step (B := T41.setTop (mkF m 22 #[.val (.ref b0), .val (.int (9 : Int32)), .val (.int (6 : Int32))] [(.int (6 : Int32)), (.ref sa)])) (fun t k => XS.iloadN X41.here hx rfl (hb hby d5_21) rfl k) ?_
          refine own_step (B := T41.setTop (mkF m 23 #[.val (.ref b0), .val (.int (9 : Int32)), .val (.int (6 : Int32))] [(.int (1 : Int32)), (.int (6 : Int32)), (.ref sa)])) (fun t k => XS.iconst X41.here hx rfl (hb hby d5_22) k) ?_
          refine own_step (B := T41.setTop (mkF m 24 #[.val (.ref b0), .val (.int (9 : Int32)), .val (.int (6 : Int32))] [(.int (7 : Int32)), (.ref sa)])) (fun t k => XS.iadd X41.here hx rfl (hb hby d5_23) rfl k) ?_
          have Vo_42 := V_sa
          obtain ⟨cl_42, Ar_42, q_42, S_42, M_42, H_42, G_42⟩ := Vo_42
          refine own_step (B := T41.setTop (mkF m 25 #[.val (.ref b0), .val (.int (9 : Int32)), .val (.int (6 : Int32))] [(.int w7)])) (fun t k => X41.iaload hx (j := (7 : Int32)) (v := (.int w7)) (by rw [e41]; exact Ar_42.1) (State.isArrayOf_alike hZ.alike Ar_42.2.1) Ar_42.2.2 (inb_of S_42 ⟨by decide, by decide⟩) (Has.at H_42 (inb_of S_42 ⟨by decide, by decide⟩) rfl) (g := (mkF m 24 #[.val (.ref b0), .val (.int (9 : Int32)), .val (.int (6 : Int32))] [(.int (7 : Int32)), (.ref sa)])) rfl rfl (hb hby d5_24) t k) ?_
          refine own_step (B := T41.setTop (mkF m 26 #[.val (.ref b0), .val (.int (9 : Int32)), .val (.int (6 : Int32))] [(.ref b0), (.int w7)])) (fun t k => XS.aloadN X41.here hx rfl (hb hby d5_25) rfl rfl k) ?_
          obtain ⟨T43, X43, e43, st43⟩ := getF X41 hx hZ hown (host := "") (Or.inl (hw _ (List.mem_of_getElem? (i := 28) rfl))) Via.refl e41 F_steps_b0 (g := (mkF m 26 #[.val (.ref b0), .val (.int (9 : Int32)), .val (.int (6 : Int32))] [(.ref b0), (.int w7)])) rfl rfl (hb hby d5_26)
          refine own_step (B := T43.setTop (mkF m 29 #[.val (.ref b0), .val (.int (9 : Int32)), .val (.int (6 : Int32))] [(.ref sa), (.int w7)])) (fun t k => st43 t k) ?_
          refine own_step (B := T43.setTop (mkF m 30 #[.val (.ref b0), .val (.int (9 : Int32)), .val (.int (6 : Int32))] [(.int (9 : Int32)), (.ref sa), (.int w7)])) (fun t k => XS.iloadN X43.here hx rfl (hb hby d5_29) rfl k) ?_
          refine own_step (B := T43.setTop (mkF m 31 #[.val (.ref b0), .val (.int (9 : Int32)), .val (.int (6 : Int32))] [(.int (1 : Int32)), (.int (9 : Int32)), (.ref sa), (.int w7)])) (fun t k => XS.iconst X43.here hx rfl (hb hby d5_30) k) ?_
          refine own_step (B := T43.setTop (mkF m 32 #[.val (.ref b0), .val (.int (9 : Int32)), .val (.int (6 : Int32))] [(.int (10 : Int32)), (.ref sa), (.int w7)])) (fun t k => XS.iadd X43.here hx rfl (hb hby d5_31) rfl k) ?_
          have Vo_44 := V_sa
          obtain ⟨cl_44, Ar_44, q_44, S_44, M_44, H_44, G_44⟩ := Vo_44
          refine own_step (B := T43.setTop (mkF m 33 #[.val (.ref b0), .val (.int (9 : Int32)), .val (.int (6 : Int32))] [(.int w10), (.int w7)])) (fun t k => X43.iaload hx (j := (10 : Int32)) (v := (.int w10)) (by rw [e43]; exact Ar_44.1) (State.isArrayOf_alike hZ.alike Ar_44.2.1) Ar_44.2.2 (inb_of S_44 ⟨by decide, by decide⟩) (Has.at H_44 (inb_of S_44 ⟨by decide, by decide⟩) rfl) (g := (mkF m 32 #[.val (.ref b0), .val (.int (9 : Int32)), .val (.int (6 : Int32))] [(.int (10 : Int32)), (.ref sa), (.int w7)])) rfl rfl (hb hby d5_32) t k) ?_
          by_cases hc33_45 : w7 = w10
          · skip
            refine own_step (B := T43.setTop (mkF m 36 #[.val (.ref b0), .val (.int (9 : Int32)), .val (.int (6 : Int32))] [])) (fun t k => XS.icmpNo X43.here hx rfl (hb hby d5_33) rfl (teq hc33_45).2 k) ?_
            refine own_step (B := T43.setTop (mkF m 37 #[.val (.ref b0), .val (.int (9 : Int32)), .val (.int (6 : Int32))] [(.int (0 : Int32))])) (fun t k => XS.iconst X43.here hx rfl (hb hby d5_36) k) ?_
            exact own_retN X43 hx hlk (t := .boolean) Bd.returns (by simp) (hb hby d5_37) (by decide) (by decide) (by have hh : (own_ex3 (own_w w0 w1 w10) (own_w w3 w4 w10) (own_w w6 w7 w10)) = (0 : Int32) := (by simp [own_w, own_ex3, hc14, hc14_33, hc33, hc14_40, hc33_45]); exact ⟨by rw [hh]; rfl, N0, e43⟩)
          · skip
            refine own_step (B := T43.setTop (mkF m 38 #[.val (.ref b0), .val (.int (9 : Int32)), .val (.int (6 : Int32))] [])) (fun t k => XS.icmpYes X43.here hx rfl (pc0 := 33) (pc' := 38) rfl (hb hby d5_33) rfl (feq hc33_45).2 (by decide) (by decide) k) ?_
            refine own_step (B := T43.setTop (mkF m 41 #[.val (.ref b0), .val (.int (9 : Int32)), .val (.int (9 : Int32))] [])) (fun t k => XS.iinc X43.here hx rfl (hb hby d5_38) rfl (l' := #[.val (.ref b0), .val (.int (9 : Int32)), .val (.int (9 : Int32))]) rfl k) ?_
            refine own_step (B := T43.setTop (mkF m 2 #[.val (.ref b0), .val (.int (9 : Int32)), .val (.int (9 : Int32))] [])) (fun t k => XS.goto X43.here hx rfl (pc0 := 41) (pc' := 2) rfl (hb hby d5_41) (by decide) (by decide) k) ?_
            refine own_step (B := T43.setTop (mkF m 3 #[.val (.ref b0), .val (.int (9 : Int32)), .val (.int (9 : Int32))] [(.int (9 : Int32))])) (fun t k => XS.iloadN X43.here hx rfl (hb hby d5_2) rfl k) ?_
            refine own_step (B := T43.setTop (mkF m 4 #[.val (.ref b0), .val (.int (9 : Int32)), .val (.int (9 : Int32))] [(.int (9 : Int32)), (.int (9 : Int32))])) (fun t k => XS.iloadN X43.here hx rfl (hb hby d5_3) rfl k) ?_
            refine own_step (B := T43.setTop (mkF m 44 #[.val (.ref b0), .val (.int (9 : Int32)), .val (.int (9 : Int32))] [])) (fun t k => XS.icmpYes X43.here hx rfl (pc0 := 4) (pc' := 44) rfl (hb hby d5_4) rfl (flt (by decide)).2.1 (by decide) (by decide) k) ?_
            refine own_step (B := T43.setTop (mkF m 45 #[.val (.ref b0), .val (.int (9 : Int32)), .val (.int (9 : Int32))] [(.int (1 : Int32))])) (fun t k => XS.iconst X43.here hx rfl (hb hby d5_44) k) ?_
            exact own_retN X43 hx hlk (t := .boolean) Bd.returns (by simp) (hb hby d5_45) (by decide) (by decide) (by have hh : (own_ex3 (own_w w0 w1 w10) (own_w w3 w4 w10) (own_w w6 w7 w10)) = (1 : Int32) := (by simp [own_w, own_ex3, hc14, hc14_33, hc33, hc14_40, hc33_45]); exact ⟨by rw [hh]; rfl, N0, e43⟩)
        · skip
          refine own_step (B := T38.setTop (mkF m 38 #[.val (.ref b0), .val (.int (9 : Int32)), .val (.int (6 : Int32))] [])) (fun t k => XS.icmpYes X38.here hx rfl (pc0 := 14) (pc' := 38) rfl (hb hby d5_14) rfl (feq hc14_40).2 (by decide) (by decide) k) ?_
          refine own_step (B := T38.setTop (mkF m 41 #[.val (.ref b0), .val (.int (9 : Int32)), .val (.int (9 : Int32))] [])) (fun t k => XS.iinc X38.here hx rfl (hb hby d5_38) rfl (l' := #[.val (.ref b0), .val (.int (9 : Int32)), .val (.int (9 : Int32))]) rfl k) ?_
          refine own_step (B := T38.setTop (mkF m 2 #[.val (.ref b0), .val (.int (9 : Int32)), .val (.int (9 : Int32))] [])) (fun t k => XS.goto X38.here hx rfl (pc0 := 41) (pc' := 2) rfl (hb hby d5_41) (by decide) (by decide) k) ?_
          refine own_step (B := T38.setTop (mkF m 3 #[.val (.ref b0), .val (.int (9 : Int32)), .val (.int (9 : Int32))] [(.int (9 : Int32))])) (fun t k => XS.iloadN X38.here hx rfl (hb hby d5_2) rfl k) ?_
          refine own_step (B := T38.setTop (mkF m 4 #[.val (.ref b0), .val (.int (9 : Int32)), .val (.int (9 : Int32))] [(.int (9 : Int32)), (.int (9 : Int32))])) (fun t k => XS.iloadN X38.here hx rfl (hb hby d5_3) rfl k) ?_
          refine own_step (B := T38.setTop (mkF m 44 #[.val (.ref b0), .val (.int (9 : Int32)), .val (.int (9 : Int32))] [])) (fun t k => XS.icmpYes X38.here hx rfl (pc0 := 4) (pc' := 44) rfl (hb hby d5_4) rfl (flt (by decide)).2.1 (by decide) (by decide) k) ?_
          refine own_step (B := T38.setTop (mkF m 45 #[.val (.ref b0), .val (.int (9 : Int32)), .val (.int (9 : Int32))] [(.int (1 : Int32))])) (fun t k => XS.iconst X38.here hx rfl (hb hby d5_44) k) ?_
          exact own_retN X38 hx hlk (t := .boolean) Bd.returns (by simp) (hb hby d5_45) (by decide) (by decide) (by have hh : (own_ex3 (own_w w0 w1 w10) (own_w w3 w4 w10) (own_w w6 w7 w10)) = (1 : Int32) := (by simp [own_w, own_ex3, hc14, hc14_33, hc33, hc14_40]); exact ⟨by rw [hh]; rfl, N0, e38⟩)
    · skip
      refine own_step (B := T31.setTop (mkF m 38 #[.val (.ref b0), .val (.int (9 : Int32)), .val (.int (3 : Int32))] [])) (fun t k => XS.icmpYes X31.here hx rfl (pc0 := 14) (pc' := 38) rfl (hb hby d5_14) rfl (feq hc14_33).2 (by decide) (by decide) k) ?_
      refine own_step (B := T31.setTop (mkF m 41 #[.val (.ref b0), .val (.int (9 : Int32)), .val (.int (6 : Int32))] [])) (fun t k => XS.iinc X31.here hx rfl (hb hby d5_38) rfl (l' := #[.val (.ref b0), .val (.int (9 : Int32)), .val (.int (6 : Int32))]) rfl k) ?_
      refine own_step (B := T31.setTop (mkF m 2 #[.val (.ref b0), .val (.int (9 : Int32)), .val (.int (6 : Int32))] [])) (fun t k => XS.goto X31.here hx rfl (pc0 := 41) (pc' := 2) rfl (hb hby d5_41) (by decide) (by decide) k) ?_
      refine own_step (B := T31.setTop (mkF m 3 #[.val (.ref b0), .val (.int (9 : Int32)), .val (.int (6 : Int32))] [(.int (6 : Int32))])) (fun t k => XS.iloadN X31.here hx rfl (hb hby d5_2) rfl k) ?_
      refine own_step (B := T31.setTop (mkF m 4 #[.val (.ref b0), .val (.int (9 : Int32)), .val (.int (6 : Int32))] [(.int (9 : Int32)), (.int (6 : Int32))])) (fun t k => XS.iloadN X31.here hx rfl (hb hby d5_3) rfl k) ?_
      refine own_step (B := T31.setTop (mkF m 7 #[.val (.ref b0), .val (.int (9 : Int32)), .val (.int (6 : Int32))] [])) (fun t k => XS.icmpNo X31.here hx rfl (hb hby d5_4) rfl (tlt (by decide)).2.1 k) ?_
      refine own_step (B := T31.setTop (mkF m 8 #[.val (.ref b0), .val (.int (9 : Int32)), .val (.int (6 : Int32))] [(.ref b0)])) (fun t k => XS.aloadN X31.here hx rfl (hb hby d5_7) rfl rfl k) ?_
      obtain ⟨T46, X46, e46, st46⟩ := getF X31 hx hZ hown (host := "") (Or.inl (hw _ (List.mem_of_getElem? (i := 28) rfl))) Via.refl e31 F_steps_b0 (g := (mkF m 8 #[.val (.ref b0), .val (.int (9 : Int32)), .val (.int (6 : Int32))] [(.ref b0)])) rfl rfl (hb hby d5_8)
      refine own_step (B := T46.setTop (mkF m 11 #[.val (.ref b0), .val (.int (9 : Int32)), .val (.int (6 : Int32))] [(.ref sa)])) (fun t k => st46 t k) ?_
      refine own_step (B := T46.setTop (mkF m 12 #[.val (.ref b0), .val (.int (9 : Int32)), .val (.int (6 : Int32))] [(.int (6 : Int32)), (.ref sa)])) (fun t k => XS.iloadN X46.here hx rfl (hb hby d5_11) rfl k) ?_
      have Vo_47 := V_sa
      obtain ⟨cl_47, Ar_47, q_47, S_47, M_47, H_47, G_47⟩ := Vo_47
      refine own_step (B := T46.setTop (mkF m 13 #[.val (.ref b0), .val (.int (9 : Int32)), .val (.int (6 : Int32))] [(.int w6)])) (fun t k => X46.iaload hx (j := (6 : Int32)) (v := (.int w6)) (by rw [e46]; exact Ar_47.1) (State.isArrayOf_alike hZ.alike Ar_47.2.1) Ar_47.2.2 (inb_of S_47 ⟨by decide, by decide⟩) (Has.at H_47 (inb_of S_47 ⟨by decide, by decide⟩) rfl) (g := (mkF m 12 #[.val (.ref b0), .val (.int (9 : Int32)), .val (.int (6 : Int32))] [(.int (6 : Int32)), (.ref sa)])) rfl rfl (hb hby d5_12) t k) ?_
      refine own_step (B := T46.setTop (mkF m 14 #[.val (.ref b0), .val (.int (9 : Int32)), .val (.int (6 : Int32))] [(.int (1 : Int32)), (.int w6)])) (fun t k => XS.iconst X46.here hx rfl (hb hby d5_13) k) ?_
      by_cases hc14_48 : w6 = (1 : Int32)
      · skip
        refine own_step (B := T46.setTop (mkF m 17 #[.val (.ref b0), .val (.int (9 : Int32)), .val (.int (6 : Int32))] [])) (fun t k => XS.icmpNo X46.here hx rfl (hb hby d5_14) rfl (teq hc14_48).2 k) ?_
        refine own_step (B := T46.setTop (mkF m 18 #[.val (.ref b0), .val (.int (9 : Int32)), .val (.int (6 : Int32))] [(.ref b0)])) (fun t k => XS.aloadN X46.here hx rfl (hb hby d5_17) rfl rfl k) ?_
        obtain ⟨T49, X49, e49, st49⟩ := getF X46 hx hZ hown (host := "") (Or.inl (hw _ (List.mem_of_getElem? (i := 28) rfl))) Via.refl e46 F_steps_b0 (g := (mkF m 18 #[.val (.ref b0), .val (.int (9 : Int32)), .val (.int (6 : Int32))] [(.ref b0)])) rfl rfl (hb hby d5_18)
        refine own_step (B := T49.setTop (mkF m 21 #[.val (.ref b0), .val (.int (9 : Int32)), .val (.int (6 : Int32))] [(.ref sa)])) (fun t k => st49 t k) ?_
        refine own_step (B := T49.setTop (mkF m 22 #[.val (.ref b0), .val (.int (9 : Int32)), .val (.int (6 : Int32))] [(.int (6 : Int32)), (.ref sa)])) (fun t k => XS.iloadN X49.here hx rfl (hb hby d5_21) rfl k) ?_
        refine own_step (B := T49.setTop (mkF m 23 #[.val (.ref b0), .val (.int (9 : Int32)), .val (.int (6 : Int32))] [(.int (1 : Int32)), (.int (6 : Int32)), (.ref sa)])) (fun t k => XS.iconst X49.here hx rfl (hb hby d5_22) k) ?_
        refine own_step (B := T49.setTop (mkF m 24 #[.val (.ref b0), .val (.int (9 : Int32)), .val (.int (6 : Int32))] [(.int (7 : Int32)), (.ref sa)])) (fun t k => XS.iadd X49.here hx rfl (hb hby d5_23) rfl k) ?_
        have Vo_50 := V_sa
        obtain ⟨cl_50, Ar_50, q_50, S_50, M_50, H_50, G_50⟩ := Vo_50
        refine own_step (B := T49.setTop (mkF m 25 #[.val (.ref b0), .val (.int (9 : Int32)), .val (.int (6 : Int32))] [(.int w7)])) (fun t k => X49.iaload hx (j := (7 : Int32)) (v := (.int w7)) (by rw [e49]; exact Ar_50.1) (State.isArrayOf_alike hZ.alike Ar_50.2.1) Ar_50.2.2 (inb_of S_50 ⟨by decide, by decide⟩) (Has.at H_50 (inb_of S_50 ⟨by decide, by decide⟩) rfl) (g := (mkF m 24 #[.val (.ref b0), .val (.int (9 : Int32)), .val (.int (6 : Int32))] [(.int (7 : Int32)), (.ref sa)])) rfl rfl (hb hby d5_24) t k) ?_
        refine own_step (B := T49.setTop (mkF m 26 #[.val (.ref b0), .val (.int (9 : Int32)), .val (.int (6 : Int32))] [(.ref b0), (.int w7)])) (fun t k => XS.aloadN X49.here hx rfl (hb hby d5_25) rfl rfl k) ?_
        obtain ⟨T51, X51, e51, st51⟩ := getF X49 hx hZ hown (host := "") (Or.inl (hw _ (List.mem_of_getElem? (i := 28) rfl))) Via.refl e49 F_steps_b0 (g := (mkF m 26 #[.val (.ref b0), .val (.int (9 : Int32)), .val (.int (6 : Int32))] [(.ref b0), (.int w7)])) rfl rfl (hb hby d5_26)
        refine own_step (B := T51.setTop (mkF m 29 #[.val (.ref b0), .val (.int (9 : Int32)), .val (.int (6 : Int32))] [(.ref sa), (.int w7)])) (fun t k => st51 t k) ?_
        refine own_step (B := T51.setTop (mkF m 30 #[.val (.ref b0), .val (.int (9 : Int32)), .val (.int (6 : Int32))] [(.int (9 : Int32)), (.ref sa), (.int w7)])) (fun t k => XS.iloadN X51.here hx rfl (hb hby d5_29) rfl k) ?_
        refine own_step (B := T51.setTop (mkF m 31 #[.val (.ref b0), .val (.int (9 : Int32)), .val (.int (6 : Int32))] [(.int (1 : Int32)), (.int (9 : Int32)), (.ref sa), (.int w7)])) (fun t k => XS.iconst X51.here hx rfl (hb hby d5_30) k) ?_
        refine own_step (B := T51.setTop (mkF m 32 #[.val (.ref b0), .val (.int (9 : Int32)), .val (.int (6 : Int32))] [(.int (10 : Int32)), (.ref sa), (.int w7)])) (fun t k => XS.iadd X51.here hx rfl (hb hby d5_31) rfl k) ?_
        have Vo_52 := V_sa
        obtain ⟨cl_52, Ar_52, q_52, S_52, M_52, H_52, G_52⟩ := Vo_52
        refine own_step (B := T51.setTop (mkF m 33 #[.val (.ref b0), .val (.int (9 : Int32)), .val (.int (6 : Int32))] [(.int w10), (.int w7)])) (fun t k => X51.iaload hx (j := (10 : Int32)) (v := (.int w10)) (by rw [e51]; exact Ar_52.1) (State.isArrayOf_alike hZ.alike Ar_52.2.1) Ar_52.2.2 (inb_of S_52 ⟨by decide, by decide⟩) (Has.at H_52 (inb_of S_52 ⟨by decide, by decide⟩) rfl) (g := (mkF m 32 #[.val (.ref b0), .val (.int (9 : Int32)), .val (.int (6 : Int32))] [(.int (10 : Int32)), (.ref sa), (.int w7)])) rfl rfl (hb hby d5_32) t k) ?_
        by_cases hc33 : w7 = w10
        · skip
          refine own_step (B := T51.setTop (mkF m 36 #[.val (.ref b0), .val (.int (9 : Int32)), .val (.int (6 : Int32))] [])) (fun t k => XS.icmpNo X51.here hx rfl (hb hby d5_33) rfl (teq hc33).2 k) ?_
          refine own_step (B := T51.setTop (mkF m 37 #[.val (.ref b0), .val (.int (9 : Int32)), .val (.int (6 : Int32))] [(.int (0 : Int32))])) (fun t k => XS.iconst X51.here hx rfl (hb hby d5_36) k) ?_
          exact own_retN X51 hx hlk (t := .boolean) Bd.returns (by simp) (hb hby d5_37) (by decide) (by decide) (by have hh : (own_ex3 (own_w w0 w1 w10) (own_w w3 w4 w10) (own_w w6 w7 w10)) = (0 : Int32) := (by simp [own_w, own_ex3, hc14, hc14_33, hc14_48, hc33]); exact ⟨by rw [hh]; rfl, N0, e51⟩)
        · skip
          refine own_step (B := T51.setTop (mkF m 38 #[.val (.ref b0), .val (.int (9 : Int32)), .val (.int (6 : Int32))] [])) (fun t k => XS.icmpYes X51.here hx rfl (pc0 := 33) (pc' := 38) rfl (hb hby d5_33) rfl (feq hc33).2 (by decide) (by decide) k) ?_
          refine own_step (B := T51.setTop (mkF m 41 #[.val (.ref b0), .val (.int (9 : Int32)), .val (.int (9 : Int32))] [])) (fun t k => XS.iinc X51.here hx rfl (hb hby d5_38) rfl (l' := #[.val (.ref b0), .val (.int (9 : Int32)), .val (.int (9 : Int32))]) rfl k) ?_
          refine own_step (B := T51.setTop (mkF m 2 #[.val (.ref b0), .val (.int (9 : Int32)), .val (.int (9 : Int32))] [])) (fun t k => XS.goto X51.here hx rfl (pc0 := 41) (pc' := 2) rfl (hb hby d5_41) (by decide) (by decide) k) ?_
          refine own_step (B := T51.setTop (mkF m 3 #[.val (.ref b0), .val (.int (9 : Int32)), .val (.int (9 : Int32))] [(.int (9 : Int32))])) (fun t k => XS.iloadN X51.here hx rfl (hb hby d5_2) rfl k) ?_
          refine own_step (B := T51.setTop (mkF m 4 #[.val (.ref b0), .val (.int (9 : Int32)), .val (.int (9 : Int32))] [(.int (9 : Int32)), (.int (9 : Int32))])) (fun t k => XS.iloadN X51.here hx rfl (hb hby d5_3) rfl k) ?_
          refine own_step (B := T51.setTop (mkF m 44 #[.val (.ref b0), .val (.int (9 : Int32)), .val (.int (9 : Int32))] [])) (fun t k => XS.icmpYes X51.here hx rfl (pc0 := 4) (pc' := 44) rfl (hb hby d5_4) rfl (flt (by decide)).2.1 (by decide) (by decide) k) ?_
          refine own_step (B := T51.setTop (mkF m 45 #[.val (.ref b0), .val (.int (9 : Int32)), .val (.int (9 : Int32))] [(.int (1 : Int32))])) (fun t k => XS.iconst X51.here hx rfl (hb hby d5_44) k) ?_
          exact own_retN X51 hx hlk (t := .boolean) Bd.returns (by simp) (hb hby d5_45) (by decide) (by decide) (by have hh : (own_ex3 (own_w w0 w1 w10) (own_w w3 w4 w10) (own_w w6 w7 w10)) = (1 : Int32) := (by simp [own_w, own_ex3, hc14, hc14_33, hc14_48, hc33]); exact ⟨by rw [hh]; rfl, N0, e51⟩)
      · skip
        refine own_step (B := T46.setTop (mkF m 38 #[.val (.ref b0), .val (.int (9 : Int32)), .val (.int (6 : Int32))] [])) (fun t k => XS.icmpYes X46.here hx rfl (pc0 := 14) (pc' := 38) rfl (hb hby d5_14) rfl (feq hc14_48).2 (by decide) (by decide) k) ?_
        refine own_step (B := T46.setTop (mkF m 41 #[.val (.ref b0), .val (.int (9 : Int32)), .val (.int (9 : Int32))] [])) (fun t k => XS.iinc X46.here hx rfl (hb hby d5_38) rfl (l' := #[.val (.ref b0), .val (.int (9 : Int32)), .val (.int (9 : Int32))]) rfl k) ?_
        refine own_step (B := T46.setTop (mkF m 2 #[.val (.ref b0), .val (.int (9 : Int32)), .val (.int (9 : Int32))] [])) (fun t k => XS.goto X46.here hx rfl (pc0 := 41) (pc' := 2) rfl (hb hby d5_41) (by decide) (by decide) k) ?_
        refine own_step (B := T46.setTop (mkF m 3 #[.val (.ref b0), .val (.int (9 : Int32)), .val (.int (9 : Int32))] [(.int (9 : Int32))])) (fun t k => XS.iloadN X46.here hx rfl (hb hby d5_2) rfl k) ?_
        refine own_step (B := T46.setTop (mkF m 4 #[.val (.ref b0), .val (.int (9 : Int32)), .val (.int (9 : Int32))] [(.int (9 : Int32)), (.int (9 : Int32))])) (fun t k => XS.iloadN X46.here hx rfl (hb hby d5_3) rfl k) ?_
        refine own_step (B := T46.setTop (mkF m 44 #[.val (.ref b0), .val (.int (9 : Int32)), .val (.int (9 : Int32))] [])) (fun t k => XS.icmpYes X46.here hx rfl (pc0 := 4) (pc' := 44) rfl (hb hby d5_4) rfl (flt (by decide)).2.1 (by decide) (by decide) k) ?_
        refine own_step (B := T46.setTop (mkF m 45 #[.val (.ref b0), .val (.int (9 : Int32)), .val (.int (9 : Int32))] [(.int (1 : Int32))])) (fun t k => XS.iconst X46.here hx rfl (hb hby d5_44) k) ?_
        exact own_retN X46 hx hlk (t := .boolean) Bd.returns (by simp) (hb hby d5_45) (by decide) (by decide) (by have hh : (own_ex3 (own_w w0 w1 w10) (own_w w3 w4 w10) (own_w w6 w7 w10)) = (1 : Int32) := (by simp [own_w, own_ex3, hc14, hc14_33, hc14_48]); exact ⟨by rw [hh]; rfl, N0, e46⟩)
theorem ef_rm0 (m : MethodId) (x0 : Int32) (x1 : Int32) (x2 : Int32) (x3 : Int32) (x4 : Int32) (x5 : Int32) : entryFrame m #[(.int x0), (.int x1), (.int x2), (.int x3), (.int x4), (.int x5)] maxLocals = mkF m 0 #[.val (.int x0), .val (.int x1), .val (.int x2), .val (.int x3), .val (.int x4), .val (.int x5), .unset, .unset, .unset, .unset, .unset, .unset, .unset, .unset] [] := by first | (simp [entryFrame, mkF, argsToLocals, Value.category, maxLocals]; done) | rfl
def QQ_rm0 (Z : State) (p0 : Int32) (p1 : Int32) (p2 : Int32) (p3 : Int32) (p4 : Int32) (p5 : Int32)  (h0 : Heap) (n0 : Nat) (v : Option Value) (h : Heap) (L : List Loc) : Prop := v = some (.int 1) ∧ Fr n0 L
set_option maxRecDepth 65536 in
set_option maxHeartbeats 40000000 in
theorem rm0 (l : Launch) (Z : State) (a0 : Array Value) (hw : ∀ d ∈ tables_1, d.before a0 Z = true) (ws : List Jvm.Cond) (p0 : Int32) (p1 : Int32) (p2 : Int32) (p3 : Int32) (p4 : Int32) (p5 : Int32)  (h0 : Heap) (n0 : Nat) (Z0 : n0 ≤ h0.size)  :
    MetFree l x (head1 (Jvm.Cond.code x code maxLocals ret :: ws) room_1) (fun a U => a = #[(.int p0), (.int p1), (.int p2), (.int p3), (.int p4), (.int p5)] ∧ Z.Warmed39 U.vm ∧ U.heap = h0) (fun _ _ _ _ _ => True) (fun _ U o U' => ∃ v L, o = .returned v ∧ (QQ_rm0 Z p0 p1 p2 p3 p4 p5 h0 n0) v U'.heap L ∧ FrameEnd U o U' L room_1.cells room_1.slots) := by
  refine MetFree.of_bodySF (plainFor_of_name pn_com_example_tightrope_tightrope_history_TransactionReadsFromOutsidePinLaw) hisR ?_
  intro p e s m args below meth c s₁ Bd hml0 hP hK
  obtain ⟨rfl, hZ, hh⟩ := hP
  have hx := Bd.exec
  have hby := Bd.bytes
  have hlk : meth.locks = false := BodyLoose.notSynchronized Bd
  have hml : c.maxLocals = 14 := hml0
  have hown : s.vm.findClass "com/example/tightrope/tightrope/history/TransactionReadsFromOutsidePinLaw" = some m.cls := findClass_of_methodNamed Bd.named
  have hnm := (name_of_methodNamed Bd.named Bd.method).1
  have X0 : Stand p l e room_1 s m #[(.int p0), (.int p1), (.int p2), (.int p3), (.int p4), (.int p5)] below meth c s₁ [] 0 0 := Stand.of_body Bd
  have e0 : s₁.heap = h0 := by rw [← hh, Bd.state]; rfl
  have N0 := Fr.nil n0
  show own_G p.tables e below s (QQ_rm0 Z p0 p1 p2 p3 p4 p5 h0 n0) room_1.cells room_1.slots (s₁.setTop (entryFrame m #[(.int p0), (.int p1), (.int p2), (.int p3), (.int p4), (.int p5)] maxLocals))
  refine own_step (B := s₁.setTop (mkF m 0 #[.val (.int p0), .val (.int p1), .val (.int p2), .val (.int p3), .val (.int p4), .val (.int p5), .unset, .unset, .unset, .unset, .unset, .unset, .unset, .unset] [])) (fun t k => castTop (ef_rm0 m p0 p1 p2 p3 p4 p5) k) ?_
  refine own_step (B := s₁.setTop (mkF m 2 #[.val (.int p0), .val (.int p1), .val (.int p2), .val (.int p3), .val (.int p4), .val (.int p5), .unset, .unset, .unset, .unset, .unset, .unset, .unset, .unset] [(.int (12 : Int32))])) (fun t k => XS.bipush X0.here hx rfl (hb hby at_0) k) ?_
  obtain ⟨T1, h1, k1, X1, e1, E1, A1, st1⟩ := newP X0 hx hZ (hw _ (List.mem_of_getElem? (i := 0) rfl)) e0 (g := (mkF m 2 #[.val (.int p0), .val (.int p1), .val (.int p2), .val (.int p3), .val (.int p4), .val (.int p5), .unset, .unset, .unset, .unset, .unset, .unset, .unset, .unset] [(.int (12 : Int32))])) rfl (hb hby at_2) rfl (by decide) (cap := 12) (by decide) (by decide) (by decide) (by decide)
  obtain ⟨ss, g1⟩ : ∃ z, z = h0.size := ⟨_, rfl⟩
  rw [← g1] at A1 st1
  have g_ss : n0 ≤ ss := Nat.le_trans Z0 (Nat.le_of_eq g1.symm)
  have Z0 := Nat.le_trans Z0 E1.1
  have K_ss := A1
  have V_ss : Arv Z h1 ss k1 .int (12 : Int32) [(.int (0 : Int32)), (.int (0 : Int32)), (.int (0 : Int32)), (.int (0 : Int32)), (.int (0 : Int32)), (.int (0 : Int32)), (.int (0 : Int32)), (.int (0 : Int32)), (.int (0 : Int32)), (.int (0 : Int32)), (.int (0 : Int32)), (.int (0 : Int32))] (.int (0 : Int32)) := (Arv.new A1 (by decide)).pad (pad_rep [] (.int (0 : Int32)) 12)
  refine own_step (B := T1.setTop (mkF m 4 #[.val (.int p0), .val (.int p1), .val (.int p2), .val (.int p3), .val (.int p4), .val (.int p5), .unset, .unset, .unset, .unset, .unset, .unset, .unset, .unset] [(.ref ss)])) (fun t k => st1 t k) ?_
  refine own_step (B := T1.setTop (mkF m 6 #[.val (.int p0), .val (.int p1), .val (.int p2), .val (.int p3), .val (.int p4), .val (.int p5), .val (.ref ss), .unset, .unset, .unset, .unset, .unset, .unset, .unset] [])) (fun t k => XS.astore X1.here hx rfl (hb hby at_4) rfl rfl (l' := #[.val (.int p0), .val (.int p1), .val (.int p2), .val (.int p3), .val (.int p4), .val (.int p5), .val (.ref ss), .unset, .unset, .unset, .unset, .unset, .unset, .unset]) rfl k) ?_
  refine own_step (B := T1.setTop (mkF m 8 #[.val (.int p0), .val (.int p1), .val (.int p2), .val (.int p3), .val (.int p4), .val (.int p5), .val (.ref ss), .unset, .unset, .unset, .unset, .unset, .unset, .unset] [(.ref ss)])) (fun t k => XS.aload X1.here hx rfl (hb hby at_6) rfl rfl k) ?_
  refine own_step (B := T1.setTop (mkF m 9 #[.val (.int p0), .val (.int p1), .val (.int p2), .val (.int p3), .val (.int p4), .val (.int p5), .val (.ref ss), .unset, .unset, .unset, .unset, .unset, .unset, .unset] [(.int (0 : Int32)), (.ref ss)])) (fun t k => XS.iconst X1.here hx rfl (hb hby at_8) k) ?_
  refine own_step (B := T1.setTop (mkF m 10 #[.val (.int p0), .val (.int p1), .val (.int p2), .val (.int p3), .val (.int p4), .val (.int p5), .val (.ref ss), .unset, .unset, .unset, .unset, .unset, .unset, .unset] [(.int p3), (.int (0 : Int32)), (.ref ss)])) (fun t k => XS.iloadN X1.here hx rfl (hb hby at_9) rfl k) ?_
  refine own_step (B := T1.setTop (mkF m 11 #[.val (.int p0), .val (.int p1), .val (.int p2), .val (.int p3), .val (.int p4), .val (.int p5), .val (.ref ss), .unset, .unset, .unset, .unset, .unset, .unset, .unset] [(.int (1 : Int32)), (.int p3), (.int (0 : Int32)), (.ref ss)])) (fun t k => XS.iconst X1.here hx rfl (hb hby at_10) k) ?_
  refine own_step (B := T1.setTop (mkF m 12 #[.val (.int p0), .val (.int p1), .val (.int p2), .val (.int p3), .val (.int p4), .val (.int p5), .val (.ref ss), .unset, .unset, .unset, .unset, .unset, .unset, .unset] [(.int (p3 &&& (1 : Int32))), (.int (0 : Int32)), (.ref ss)])) (fun t k => XS.iand X1.here hx rfl (hb hby at_11) rfl k) ?_
  have Vo_2 := V_ss
  obtain ⟨cl_2, Ar_2, q_2, S_2, M_2, H_2, G_2⟩ := Vo_2
  have hin3 : ¬ ((0 : Int32) < 0 ∨ cl_2.slots.size ≤ ((0 : Int32)).toNatClampNeg) := inb_of S_2 ⟨by decide, by decide⟩
  obtain ⟨T3, h3, X3, e3, W3, st3⟩ := stI X1 hx hZ e1 Ar_2 (j := (0 : Int32)) hin3 (g := (mkF m 12 #[.val (.int p0), .val (.int p1), .val (.int p2), .val (.int p3), .val (.int p4), .val (.int p5), .val (.ref ss), .unset, .unset, .unset, .unset, .unset, .unset, .unset] [(.int (p3 &&& (1 : Int32))), (.int (0 : Int32)), (.ref ss)])) rfl rfl (hb hby at_12)
  have Z0 := Nat.le_trans Z0 (Keep.of_wr W3).1
  have N0 := Fr.snoc X3 N0 g_ss
  have V_ss := Arv.set Ar_2 q_2 S_2 M_2 H_2 G_2 rfl W3 0 rfl (Nat.le_of_ble_eq_true rfl)
  change Arv Z h3 ss k1 .int (12 : Int32) [(.int (p3 &&& (1 : Int32))), (.int (0 : Int32)), (.int (0 : Int32)), (.int (0 : Int32)), (.int (0 : Int32)), (.int (0 : Int32)), (.int (0 : Int32)), (.int (0 : Int32)), (.int (0 : Int32)), (.int (0 : Int32)), (.int (0 : Int32)), (.int (0 : Int32))] (.int (0 : Int32)) at V_ss
  refine own_step (B := T3.setTop (mkF m 13 #[.val (.int p0), .val (.int p1), .val (.int p2), .val (.int p3), .val (.int p4), .val (.int p5), .val (.ref ss), .unset, .unset, .unset, .unset, .unset, .unset, .unset] [])) (fun t k => st3 t k) ?_
  refine own_step (B := T3.setTop (mkF m 15 #[.val (.int p0), .val (.int p1), .val (.int p2), .val (.int p3), .val (.int p4), .val (.int p5), .val (.ref ss), .unset, .unset, .unset, .unset, .unset, .unset, .unset] [(.ref ss)])) (fun t k => XS.aload X3.here hx rfl (hb hby at_13) rfl rfl k) ?_
  refine own_step (B := T3.setTop (mkF m 16 #[.val (.int p0), .val (.int p1), .val (.int p2), .val (.int p3), .val (.int p4), .val (.int p5), .val (.ref ss), .unset, .unset, .unset, .unset, .unset, .unset, .unset] [(.int (1 : Int32)), (.ref ss)])) (fun t k => XS.iconst X3.here hx rfl (hb hby at_15) k) ?_
  refine own_step (B := T3.setTop (mkF m 18 #[.val (.int p0), .val (.int p1), .val (.int p2), .val (.int p3), .val (.int p4), .val (.int p5), .val (.ref ss), .unset, .unset, .unset, .unset, .unset, .unset, .unset] [(.int p4), (.int (1 : Int32)), (.ref ss)])) (fun t k => XS.iload X3.here hx rfl (hb hby at_16) rfl k) ?_
  refine own_step (B := T3.setTop (mkF m 19 #[.val (.int p0), .val (.int p1), .val (.int p2), .val (.int p3), .val (.int p4), .val (.int p5), .val (.ref ss), .unset, .unset, .unset, .unset, .unset, .unset, .unset] [(.int (3 : Int32)), (.int p4), (.int (1 : Int32)), (.ref ss)])) (fun t k => XS.iconst X3.here hx rfl (hb hby at_18) k) ?_
  refine own_step (B := T3.setTop (mkF m 20 #[.val (.int p0), .val (.int p1), .val (.int p2), .val (.int p3), .val (.int p4), .val (.int p5), .val (.ref ss), .unset, .unset, .unset, .unset, .unset, .unset, .unset] [(.int (p4 &&& (3 : Int32))), (.int (1 : Int32)), (.ref ss)])) (fun t k => XS.iand X3.here hx rfl (hb hby at_19) rfl k) ?_
  refine own_step (B := T3.setTop (mkF m 21 #[.val (.int p0), .val (.int p1), .val (.int p2), .val (.int p3), .val (.int p4), .val (.int p5), .val (.ref ss), .unset, .unset, .unset, .unset, .unset, .unset, .unset] [(.int p0), (.int (p4 &&& (3 : Int32))), (.int (1 : Int32)), (.ref ss)])) (fun t k => XS.iloadN X3.here hx rfl (hb hby at_20) rfl k) ?_
  refine own_step (B := T3.setTop (mkF m 22 #[.val (.int p0), .val (.int p1), .val (.int p2), .val (.int p3), .val (.int p4), .val (.int p5), .val (.ref ss), .unset, .unset, .unset, .unset, .unset, .unset, .unset] [(.int p1), (.int p0), (.int (p4 &&& (3 : Int32))), (.int (1 : Int32)), (.ref ss)])) (fun t k => XS.iloadN X3.here hx rfl (hb hby at_21) rfl k) ?_
  refine own_step (B := T3.setTop (mkF m 23 #[.val (.int p0), .val (.int p1), .val (.int p2), .val (.int p3), .val (.int p4), .val (.int p5), .val (.ref ss), .unset, .unset, .unset, .unset, .unset, .unset, .unset] [(.int p2), (.int p1), (.int p0), (.int (p4 &&& (3 : Int32))), (.int (1 : Int32)), (.ref ss)])) (fun t k => XS.iloadN X3.here hx rfl (hb hby at_22) rfl k) ?_
  obtain ⟨_, _, ⟨T4, L4, k4, n4⟩, -, X4, ⟨Lc4, hQ4, l4, y4, z4⟩, st4⟩ := Jvm.LawKit.callS X3 hx (y := (⟨"com/example/tightrope/tightrope/history/TransactionReadsFromOutsidePinLaw", "pick", "(IIII)I"⟩ : MethodName)) hown (mvT hZ (hw _ (List.mem_of_getElem? (i := 1) rfl))) (mvT hZ (hw _ (List.mem_of_getElem? (i := 2) rfl))) (mvT hZ (hw _ (List.mem_of_getElem? (i := 3) rfl))) (mvT hZ (hw _ (List.mem_of_getElem? (i := 4) rfl))) (by decide) (backOf (W := 2) (rm1 l Z a0 hw [] (p4 &&& (3 : Int32)) p0 p1 p2  h3 n0 Z0 ) hZ (hw _ (List.mem_of_getElem? (i := 4) rfl)) (hw _ (List.mem_of_getElem? (i := 3) rfl)) (by decide) (by decide)) (g := (mkF m 23 #[.val (.int p0), .val (.int p1), .val (.int p2), .val (.int p3), .val (.int p4), .val (.int p5), .val (.ref ss), .unset, .unset, .unset, .unset, .unset, .unset, .unset] [(.int p2), (.int p1), (.int p0), (.int (p4 &&& (3 : Int32))), (.int (1 : Int32)), (.ref ss)])) rfl (by rw [hml]; rfl) (argsL := [(.int (p4 &&& (3 : Int32))), (.int p0), (.int p1), (.int p2)]) (rest := [(.int (1 : Int32)), (.ref ss)]) (lenOf pd_1 rfl) rfl (by show 2 * 0 + _ ≤ _; exact Nat.le_of_eq rfl) (hb hby at_23) (fun _ _ => ⟨rfl, e3, (by decide : 1 + 0 ≤ _), (by decide : 12 + 0 ≤ _)⟩)
  dsimp only [Pt.U, Pt.locs, Pt.cells, Pt.slots] at X4 l4 y4 z4 st4 hQ4
  subst l4 y4 z4
  obtain ⟨v5, rfl, N4q, e_p5⟩ := hQ4
  have N0 := Fr.app N0 N4q
  refine own_step (B := T4.setTop (mkF m 26 #[.val (.int p0), .val (.int p1), .val (.int p2), .val (.int p3), .val (.int p4), .val (.int p5), .val (.ref ss), .unset, .unset, .unset, .unset, .unset, .unset, .unset] [(.int v5), (.int (1 : Int32)), (.ref ss)])) (fun t k => st4 t k) ?_
  have Vo_6 := V_ss
  obtain ⟨cl_6, Ar_6, q_6, S_6, M_6, H_6, G_6⟩ := Vo_6
  have hin7 : ¬ ((1 : Int32) < 0 ∨ cl_6.slots.size ≤ ((1 : Int32)).toNatClampNeg) := inb_of S_6 ⟨by decide, by decide⟩
  obtain ⟨T7, h7, X7, e7, W7, st7⟩ := stI X4 hx hZ e_p5 Ar_6 (j := (1 : Int32)) hin7 (g := (mkF m 26 #[.val (.int p0), .val (.int p1), .val (.int p2), .val (.int p3), .val (.int p4), .val (.int p5), .val (.ref ss), .unset, .unset, .unset, .unset, .unset, .unset, .unset] [(.int v5), (.int (1 : Int32)), (.ref ss)])) rfl rfl (hb hby at_26)
  have Z0 := Nat.le_trans Z0 (Keep.of_wr W7).1
  have N0 := Fr.snoc X7 N0 g_ss
  have V_ss := Arv.set Ar_6 q_6 S_6 M_6 H_6 G_6 rfl W7 1 rfl (Nat.le_of_ble_eq_true rfl)
  change Arv Z h7 ss k1 .int (12 : Int32) [(.int (p3 &&& (1 : Int32))), (.int v5), (.int (0 : Int32)), (.int (0 : Int32)), (.int (0 : Int32)), (.int (0 : Int32)), (.int (0 : Int32)), (.int (0 : Int32)), (.int (0 : Int32)), (.int (0 : Int32)), (.int (0 : Int32)), (.int (0 : Int32))] (.int (0 : Int32)) at V_ss
  refine own_step (B := T7.setTop (mkF m 27 #[.val (.int p0), .val (.int p1), .val (.int p2), .val (.int p3), .val (.int p4), .val (.int p5), .val (.ref ss), .unset, .unset, .unset, .unset, .unset, .unset, .unset] [])) (fun t k => st7 t k) ?_
  refine own_step (B := T7.setTop (mkF m 29 #[.val (.int p0), .val (.int p1), .val (.int p2), .val (.int p3), .val (.int p4), .val (.int p5), .val (.ref ss), .unset, .unset, .unset, .unset, .unset, .unset, .unset] [(.ref ss)])) (fun t k => XS.aload X7.here hx rfl (hb hby at_27) rfl rfl k) ?_
  refine own_step (B := T7.setTop (mkF m 30 #[.val (.int p0), .val (.int p1), .val (.int p2), .val (.int p3), .val (.int p4), .val (.int p5), .val (.ref ss), .unset, .unset, .unset, .unset, .unset, .unset, .unset] [(.int (2 : Int32)), (.ref ss)])) (fun t k => XS.iconst X7.here hx rfl (hb hby at_29) k) ?_
  refine own_step (B := T7.setTop (mkF m 32 #[.val (.int p0), .val (.int p1), .val (.int p2), .val (.int p3), .val (.int p4), .val (.int p5), .val (.ref ss), .unset, .unset, .unset, .unset, .unset, .unset, .unset] [(.int p4), (.int (2 : Int32)), (.ref ss)])) (fun t k => XS.iload X7.here hx rfl (hb hby at_30) rfl k) ?_
  refine own_step (B := T7.setTop (mkF m 34 #[.val (.int p0), .val (.int p1), .val (.int p2), .val (.int p3), .val (.int p4), .val (.int p5), .val (.ref ss), .unset, .unset, .unset, .unset, .unset, .unset, .unset] [(.int (8 : Int32)), (.int p4), (.int (2 : Int32)), (.ref ss)])) (fun t k => XS.bipush X7.here hx rfl (hb hby at_32) k) ?_
  refine own_step (B := T7.setTop (mkF m 35 #[.val (.int p0), .val (.int p1), .val (.int p2), .val (.int p3), .val (.int p4), .val (.int p5), .val (.ref ss), .unset, .unset, .unset, .unset, .unset, .unset, .unset] [(.int ((p4.toUInt32 >>> ((8 : Int32) &&& 31).toUInt32).toInt32)), (.int (2 : Int32)), (.ref ss)])) (fun t k => XS.iushr X7.here hx rfl (hb hby at_34) rfl k) ?_
  refine own_step (B := T7.setTop (mkF m 36 #[.val (.int p0), .val (.int p1), .val (.int p2), .val (.int p3), .val (.int p4), .val (.int p5), .val (.ref ss), .unset, .unset, .unset, .unset, .unset, .unset, .unset] [(.int (3 : Int32)), (.int ((p4.toUInt32 >>> ((8 : Int32) &&& 31).toUInt32).toInt32)), (.int (2 : Int32)), (.ref ss)])) (fun t k => XS.iconst X7.here hx rfl (hb hby at_35) k) ?_
  refine own_step (B := T7.setTop (mkF m 37 #[.val (.int p0), .val (.int p1), .val (.int p2), .val (.int p3), .val (.int p4), .val (.int p5), .val (.ref ss), .unset, .unset, .unset, .unset, .unset, .unset, .unset] [(.int (((p4.toUInt32 >>> ((8 : Int32) &&& 31).toUInt32).toInt32) &&& (3 : Int32))), (.int (2 : Int32)), (.ref ss)])) (fun t k => XS.iand X7.here hx rfl (hb hby at_36) rfl k) ?_
  refine own_step (B := T7.setTop (mkF m 38 #[.val (.int p0), .val (.int p1), .val (.int p2), .val (.int p3), .val (.int p4), .val (.int p5), .val (.ref ss), .unset, .unset, .unset, .unset, .unset, .unset, .unset] [(.int p0), (.int (((p4.toUInt32 >>> ((8 : Int32) &&& 31).toUInt32).toInt32) &&& (3 : Int32))), (.int (2 : Int32)), (.ref ss)])) (fun t k => XS.iloadN X7.here hx rfl (hb hby at_37) rfl k) ?_
  refine own_step (B := T7.setTop (mkF m 39 #[.val (.int p0), .val (.int p1), .val (.int p2), .val (.int p3), .val (.int p4), .val (.int p5), .val (.ref ss), .unset, .unset, .unset, .unset, .unset, .unset, .unset] [(.int p1), (.int p0), (.int (((p4.toUInt32 >>> ((8 : Int32) &&& 31).toUInt32).toInt32) &&& (3 : Int32))), (.int (2 : Int32)), (.ref ss)])) (fun t k => XS.iloadN X7.here hx rfl (hb hby at_38) rfl k) ?_
  refine own_step (B := T7.setTop (mkF m 40 #[.val (.int p0), .val (.int p1), .val (.int p2), .val (.int p3), .val (.int p4), .val (.int p5), .val (.ref ss), .unset, .unset, .unset, .unset, .unset, .unset, .unset] [(.int p2), (.int p1), (.int p0), (.int (((p4.toUInt32 >>> ((8 : Int32) &&& 31).toUInt32).toInt32) &&& (3 : Int32))), (.int (2 : Int32)), (.ref ss)])) (fun t k => XS.iloadN X7.here hx rfl (hb hby at_39) rfl k) ?_
  obtain ⟨_, _, ⟨T8, L8, k8, n8⟩, -, X8, ⟨Lc8, hQ8, l8, y8, z8⟩, st8⟩ := Jvm.LawKit.callS X7 hx (y := (⟨"com/example/tightrope/tightrope/history/TransactionReadsFromOutsidePinLaw", "pick", "(IIII)I"⟩ : MethodName)) hown (mvT hZ (hw _ (List.mem_of_getElem? (i := 1) rfl))) (mvT hZ (hw _ (List.mem_of_getElem? (i := 2) rfl))) (mvT hZ (hw _ (List.mem_of_getElem? (i := 3) rfl))) (mvT hZ (hw _ (List.mem_of_getElem? (i := 4) rfl))) (by decide) (backOf (W := 2) (rm1 l Z a0 hw [] (((p4.toUInt32 >>> ((8 : Int32) &&& 31).toUInt32).toInt32) &&& (3 : Int32)) p0 p1 p2  h7 n0 Z0 ) hZ (hw _ (List.mem_of_getElem? (i := 4) rfl)) (hw _ (List.mem_of_getElem? (i := 3) rfl)) (by decide) (by decide)) (g := (mkF m 40 #[.val (.int p0), .val (.int p1), .val (.int p2), .val (.int p3), .val (.int p4), .val (.int p5), .val (.ref ss), .unset, .unset, .unset, .unset, .unset, .unset, .unset] [(.int p2), (.int p1), (.int p0), (.int (((p4.toUInt32 >>> ((8 : Int32) &&& 31).toUInt32).toInt32) &&& (3 : Int32))), (.int (2 : Int32)), (.ref ss)])) rfl (by rw [hml]; rfl) (argsL := [(.int (((p4.toUInt32 >>> ((8 : Int32) &&& 31).toUInt32).toInt32) &&& (3 : Int32))), (.int p0), (.int p1), (.int p2)]) (rest := [(.int (2 : Int32)), (.ref ss)]) (lenOf pd_1 rfl) rfl (by show 2 * 0 + _ ≤ _; exact Nat.le_of_eq rfl) (hb hby at_40) (fun _ _ => ⟨rfl, e7, (by decide : 1 + 0 ≤ _), (by decide : 12 + 0 ≤ _)⟩)
  dsimp only [Pt.U, Pt.locs, Pt.cells, Pt.slots] at X8 l8 y8 z8 st8 hQ8
  subst l8 y8 z8
  obtain ⟨v9, rfl, N8q, e_p9⟩ := hQ8
  have N0 := Fr.app N0 N8q
  refine own_step (B := T8.setTop (mkF m 43 #[.val (.int p0), .val (.int p1), .val (.int p2), .val (.int p3), .val (.int p4), .val (.int p5), .val (.ref ss), .unset, .unset, .unset, .unset, .unset, .unset, .unset] [(.int v9), (.int (2 : Int32)), (.ref ss)])) (fun t k => st8 t k) ?_
  have Vo_10 := V_ss
  obtain ⟨cl_10, Ar_10, q_10, S_10, M_10, H_10, G_10⟩ := Vo_10
  have hin11 : ¬ ((2 : Int32) < 0 ∨ cl_10.slots.size ≤ ((2 : Int32)).toNatClampNeg) := inb_of S_10 ⟨by decide, by decide⟩
  obtain ⟨T11, h11, X11, e11, W11, st11⟩ := stI X8 hx hZ e_p9 Ar_10 (j := (2 : Int32)) hin11 (g := (mkF m 43 #[.val (.int p0), .val (.int p1), .val (.int p2), .val (.int p3), .val (.int p4), .val (.int p5), .val (.ref ss), .unset, .unset, .unset, .unset, .unset, .unset, .unset] [(.int v9), (.int (2 : Int32)), (.ref ss)])) rfl rfl (hb hby at_43)
  have Z0 := Nat.le_trans Z0 (Keep.of_wr W11).1
  have N0 := Fr.snoc X11 N0 g_ss
  have V_ss := Arv.set Ar_10 q_10 S_10 M_10 H_10 G_10 rfl W11 2 rfl (Nat.le_of_ble_eq_true rfl)
  change Arv Z h11 ss k1 .int (12 : Int32) [(.int (p3 &&& (1 : Int32))), (.int v5), (.int v9), (.int (0 : Int32)), (.int (0 : Int32)), (.int (0 : Int32)), (.int (0 : Int32)), (.int (0 : Int32)), (.int (0 : Int32)), (.int (0 : Int32)), (.int (0 : Int32)), (.int (0 : Int32))] (.int (0 : Int32)) at V_ss
  refine own_step (B := T11.setTop (mkF m 44 #[.val (.int p0), .val (.int p1), .val (.int p2), .val (.int p3), .val (.int p4), .val (.int p5), .val (.ref ss), .unset, .unset, .unset, .unset, .unset, .unset, .unset] [])) (fun t k => st11 t k) ?_
  refine own_step (B := T11.setTop (mkF m 46 #[.val (.int p0), .val (.int p1), .val (.int p2), .val (.int p3), .val (.int p4), .val (.int p5), .val (.ref ss), .unset, .unset, .unset, .unset, .unset, .unset, .unset] [(.ref ss)])) (fun t k => XS.aload X11.here hx rfl (hb hby at_44) rfl rfl k) ?_
  refine own_step (B := T11.setTop (mkF m 47 #[.val (.int p0), .val (.int p1), .val (.int p2), .val (.int p3), .val (.int p4), .val (.int p5), .val (.ref ss), .unset, .unset, .unset, .unset, .unset, .unset, .unset] [(.int (3 : Int32)), (.ref ss)])) (fun t k => XS.iconst X11.here hx rfl (hb hby at_46) k) ?_
  refine own_step (B := T11.setTop (mkF m 48 #[.val (.int p0), .val (.int p1), .val (.int p2), .val (.int p3), .val (.int p4), .val (.int p5), .val (.ref ss), .unset, .unset, .unset, .unset, .unset, .unset, .unset] [(.int p3), (.int (3 : Int32)), (.ref ss)])) (fun t k => XS.iloadN X11.here hx rfl (hb hby at_47) rfl k) ?_
  refine own_step (B := T11.setTop (mkF m 49 #[.val (.int p0), .val (.int p1), .val (.int p2), .val (.int p3), .val (.int p4), .val (.int p5), .val (.ref ss), .unset, .unset, .unset, .unset, .unset, .unset, .unset] [(.int (1 : Int32)), (.int p3), (.int (3 : Int32)), (.ref ss)])) (fun t k => XS.iconst X11.here hx rfl (hb hby at_48) k) ?_
  refine own_step (B := T11.setTop (mkF m 50 #[.val (.int p0), .val (.int p1), .val (.int p2), .val (.int p3), .val (.int p4), .val (.int p5), .val (.ref ss), .unset, .unset, .unset, .unset, .unset, .unset, .unset] [(.int ((p3.toUInt32 >>> ((1 : Int32) &&& 31).toUInt32).toInt32)), (.int (3 : Int32)), (.ref ss)])) (fun t k => XS.iushr X11.here hx rfl (hb hby at_49) rfl k) ?_
  refine own_step (B := T11.setTop (mkF m 51 #[.val (.int p0), .val (.int p1), .val (.int p2), .val (.int p3), .val (.int p4), .val (.int p5), .val (.ref ss), .unset, .unset, .unset, .unset, .unset, .unset, .unset] [(.int (1 : Int32)), (.int ((p3.toUInt32 >>> ((1 : Int32) &&& 31).toUInt32).toInt32)), (.int (3 : Int32)), (.ref ss)])) (fun t k => XS.iconst X11.here hx rfl (hb hby at_50) k) ?_
  refine own_step (B := T11.setTop (mkF m 52 #[.val (.int p0), .val (.int p1), .val (.int p2), .val (.int p3), .val (.int p4), .val (.int p5), .val (.ref ss), .unset, .unset, .unset, .unset, .unset, .unset, .unset] [(.int (((p3.toUInt32 >>> ((1 : Int32) &&& 31).toUInt32).toInt32) &&& (1 : Int32))), (.int (3 : Int32)), (.ref ss)])) (fun t k => XS.iand X11.here hx rfl (hb hby at_51) rfl k) ?_
  have Vo_12 := V_ss
  obtain ⟨cl_12, Ar_12, q_12, S_12, M_12, H_12, G_12⟩ := Vo_12
  have hin13 : ¬ ((3 : Int32) < 0 ∨ cl_12.slots.size ≤ ((3 : Int32)).toNatClampNeg) := inb_of S_12 ⟨by decide, by decide⟩
  obtain ⟨T13, h13, X13, e13, W13, st13⟩ := stI X11 hx hZ e11 Ar_12 (j := (3 : Int32)) hin13 (g := (mkF m 52 #[.val (.int p0), .val (.int p1), .val (.int p2), .val (.int p3), .val (.int p4), .val (.int p5), .val (.ref ss), .unset, .unset, .unset, .unset, .unset, .unset, .unset] [(.int (((p3.toUInt32 >>> ((1 : Int32) &&& 31).toUInt32).toInt32) &&& (1 : Int32))), (.int (3 : Int32)), (.ref ss)])) rfl rfl (hb hby at_52)
  have Z0 := Nat.le_trans Z0 (Keep.of_wr W13).1
  have N0 := Fr.snoc X13 N0 g_ss
  have V_ss := Arv.set Ar_12 q_12 S_12 M_12 H_12 G_12 rfl W13 3 rfl (Nat.le_of_ble_eq_true rfl)
  change Arv Z h13 ss k1 .int (12 : Int32) [(.int (p3 &&& (1 : Int32))), (.int v5), (.int v9), (.int (((p3.toUInt32 >>> ((1 : Int32) &&& 31).toUInt32).toInt32) &&& (1 : Int32))), (.int (0 : Int32)), (.int (0 : Int32)), (.int (0 : Int32)), (.int (0 : Int32)), (.int (0 : Int32)), (.int (0 : Int32)), (.int (0 : Int32)), (.int (0 : Int32))] (.int (0 : Int32)) at V_ss
  refine own_step (B := T13.setTop (mkF m 53 #[.val (.int p0), .val (.int p1), .val (.int p2), .val (.int p3), .val (.int p4), .val (.int p5), .val (.ref ss), .unset, .unset, .unset, .unset, .unset, .unset, .unset] [])) (fun t k => st13 t k) ?_
  refine own_step (B := T13.setTop (mkF m 55 #[.val (.int p0), .val (.int p1), .val (.int p2), .val (.int p3), .val (.int p4), .val (.int p5), .val (.ref ss), .unset, .unset, .unset, .unset, .unset, .unset, .unset] [(.ref ss)])) (fun t k => XS.aload X13.here hx rfl (hb hby at_53) rfl rfl k) ?_
  refine own_step (B := T13.setTop (mkF m 56 #[.val (.int p0), .val (.int p1), .val (.int p2), .val (.int p3), .val (.int p4), .val (.int p5), .val (.ref ss), .unset, .unset, .unset, .unset, .unset, .unset, .unset] [(.int (4 : Int32)), (.ref ss)])) (fun t k => XS.iconst X13.here hx rfl (hb hby at_55) k) ?_
  refine own_step (B := T13.setTop (mkF m 58 #[.val (.int p0), .val (.int p1), .val (.int p2), .val (.int p3), .val (.int p4), .val (.int p5), .val (.ref ss), .unset, .unset, .unset, .unset, .unset, .unset, .unset] [(.int p4), (.int (4 : Int32)), (.ref ss)])) (fun t k => XS.iload X13.here hx rfl (hb hby at_56) rfl k) ?_
  refine own_step (B := T13.setTop (mkF m 59 #[.val (.int p0), .val (.int p1), .val (.int p2), .val (.int p3), .val (.int p4), .val (.int p5), .val (.ref ss), .unset, .unset, .unset, .unset, .unset, .unset, .unset] [(.int (2 : Int32)), (.int p4), (.int (4 : Int32)), (.ref ss)])) (fun t k => XS.iconst X13.here hx rfl (hb hby at_58) k) ?_
  refine own_step (B := T13.setTop (mkF m 60 #[.val (.int p0), .val (.int p1), .val (.int p2), .val (.int p3), .val (.int p4), .val (.int p5), .val (.ref ss), .unset, .unset, .unset, .unset, .unset, .unset, .unset] [(.int ((p4.toUInt32 >>> ((2 : Int32) &&& 31).toUInt32).toInt32)), (.int (4 : Int32)), (.ref ss)])) (fun t k => XS.iushr X13.here hx rfl (hb hby at_59) rfl k) ?_
  refine own_step (B := T13.setTop (mkF m 61 #[.val (.int p0), .val (.int p1), .val (.int p2), .val (.int p3), .val (.int p4), .val (.int p5), .val (.ref ss), .unset, .unset, .unset, .unset, .unset, .unset, .unset] [(.int (3 : Int32)), (.int ((p4.toUInt32 >>> ((2 : Int32) &&& 31).toUInt32).toInt32)), (.int (4 : Int32)), (.ref ss)])) (fun t k => XS.iconst X13.here hx rfl (hb hby at_60) k) ?_
  refine own_step (B := T13.setTop (mkF m 62 #[.val (.int p0), .val (.int p1), .val (.int p2), .val (.int p3), .val (.int p4), .val (.int p5), .val (.ref ss), .unset, .unset, .unset, .unset, .unset, .unset, .unset] [(.int (((p4.toUInt32 >>> ((2 : Int32) &&& 31).toUInt32).toInt32) &&& (3 : Int32))), (.int (4 : Int32)), (.ref ss)])) (fun t k => XS.iand X13.here hx rfl (hb hby at_61) rfl k) ?_
  refine own_step (B := T13.setTop (mkF m 63 #[.val (.int p0), .val (.int p1), .val (.int p2), .val (.int p3), .val (.int p4), .val (.int p5), .val (.ref ss), .unset, .unset, .unset, .unset, .unset, .unset, .unset] [(.int p0), (.int (((p4.toUInt32 >>> ((2 : Int32) &&& 31).toUInt32).toInt32) &&& (3 : Int32))), (.int (4 : Int32)), (.ref ss)])) (fun t k => XS.iloadN X13.here hx rfl (hb hby at_62) rfl k) ?_
  refine own_step (B := T13.setTop (mkF m 64 #[.val (.int p0), .val (.int p1), .val (.int p2), .val (.int p3), .val (.int p4), .val (.int p5), .val (.ref ss), .unset, .unset, .unset, .unset, .unset, .unset, .unset] [(.int p1), (.int p0), (.int (((p4.toUInt32 >>> ((2 : Int32) &&& 31).toUInt32).toInt32) &&& (3 : Int32))), (.int (4 : Int32)), (.ref ss)])) (fun t k => XS.iloadN X13.here hx rfl (hb hby at_63) rfl k) ?_
  refine own_step (B := T13.setTop (mkF m 65 #[.val (.int p0), .val (.int p1), .val (.int p2), .val (.int p3), .val (.int p4), .val (.int p5), .val (.ref ss), .unset, .unset, .unset, .unset, .unset, .unset, .unset] [(.int p2), (.int p1), (.int p0), (.int (((p4.toUInt32 >>> ((2 : Int32) &&& 31).toUInt32).toInt32) &&& (3 : Int32))), (.int (4 : Int32)), (.ref ss)])) (fun t k => XS.iloadN X13.here hx rfl (hb hby at_64) rfl k) ?_
  obtain ⟨_, _, ⟨T14, L14, k14, n14⟩, -, X14, ⟨Lc14, hQ14, l14, y14, z14⟩, st14⟩ := Jvm.LawKit.callS X13 hx (y := (⟨"com/example/tightrope/tightrope/history/TransactionReadsFromOutsidePinLaw", "pick", "(IIII)I"⟩ : MethodName)) hown (mvT hZ (hw _ (List.mem_of_getElem? (i := 1) rfl))) (mvT hZ (hw _ (List.mem_of_getElem? (i := 2) rfl))) (mvT hZ (hw _ (List.mem_of_getElem? (i := 3) rfl))) (mvT hZ (hw _ (List.mem_of_getElem? (i := 4) rfl))) (by decide) (backOf (W := 2) (rm1 l Z a0 hw [] (((p4.toUInt32 >>> ((2 : Int32) &&& 31).toUInt32).toInt32) &&& (3 : Int32)) p0 p1 p2  h13 n0 Z0 ) hZ (hw _ (List.mem_of_getElem? (i := 4) rfl)) (hw _ (List.mem_of_getElem? (i := 3) rfl)) (by decide) (by decide)) (g := (mkF m 65 #[.val (.int p0), .val (.int p1), .val (.int p2), .val (.int p3), .val (.int p4), .val (.int p5), .val (.ref ss), .unset, .unset, .unset, .unset, .unset, .unset, .unset] [(.int p2), (.int p1), (.int p0), (.int (((p4.toUInt32 >>> ((2 : Int32) &&& 31).toUInt32).toInt32) &&& (3 : Int32))), (.int (4 : Int32)), (.ref ss)])) rfl (by rw [hml]; rfl) (argsL := [(.int (((p4.toUInt32 >>> ((2 : Int32) &&& 31).toUInt32).toInt32) &&& (3 : Int32))), (.int p0), (.int p1), (.int p2)]) (rest := [(.int (4 : Int32)), (.ref ss)]) (lenOf pd_1 rfl) rfl (by show 2 * 0 + _ ≤ _; exact Nat.le_of_eq rfl) (hb hby at_65) (fun _ _ => ⟨rfl, e13, (by decide : 1 + 0 ≤ _), (by decide : 12 + 0 ≤ _)⟩)
  dsimp only [Pt.U, Pt.locs, Pt.cells, Pt.slots] at X14 l14 y14 z14 st14 hQ14
  subst l14 y14 z14
  obtain ⟨v15, rfl, N14q, e_p15⟩ := hQ14
  have N0 := Fr.app N0 N14q
  refine own_step (B := T14.setTop (mkF m 68 #[.val (.int p0), .val (.int p1), .val (.int p2), .val (.int p3), .val (.int p4), .val (.int p5), .val (.ref ss), .unset, .unset, .unset, .unset, .unset, .unset, .unset] [(.int v15), (.int (4 : Int32)), (.ref ss)])) (fun t k => st14 t k) ?_
  have Vo_16 := V_ss
  obtain ⟨cl_16, Ar_16, q_16, S_16, M_16, H_16, G_16⟩ := Vo_16
  have hin17 : ¬ ((4 : Int32) < 0 ∨ cl_16.slots.size ≤ ((4 : Int32)).toNatClampNeg) := inb_of S_16 ⟨by decide, by decide⟩
  obtain ⟨T17, h17, X17, e17, W17, st17⟩ := stI X14 hx hZ e_p15 Ar_16 (j := (4 : Int32)) hin17 (g := (mkF m 68 #[.val (.int p0), .val (.int p1), .val (.int p2), .val (.int p3), .val (.int p4), .val (.int p5), .val (.ref ss), .unset, .unset, .unset, .unset, .unset, .unset, .unset] [(.int v15), (.int (4 : Int32)), (.ref ss)])) rfl rfl (hb hby at_68)
  have Z0 := Nat.le_trans Z0 (Keep.of_wr W17).1
  have N0 := Fr.snoc X17 N0 g_ss
  have V_ss := Arv.set Ar_16 q_16 S_16 M_16 H_16 G_16 rfl W17 4 rfl (Nat.le_of_ble_eq_true rfl)
  change Arv Z h17 ss k1 .int (12 : Int32) [(.int (p3 &&& (1 : Int32))), (.int v5), (.int v9), (.int (((p3.toUInt32 >>> ((1 : Int32) &&& 31).toUInt32).toInt32) &&& (1 : Int32))), (.int v15), (.int (0 : Int32)), (.int (0 : Int32)), (.int (0 : Int32)), (.int (0 : Int32)), (.int (0 : Int32)), (.int (0 : Int32)), (.int (0 : Int32))] (.int (0 : Int32)) at V_ss
  refine own_step (B := T17.setTop (mkF m 69 #[.val (.int p0), .val (.int p1), .val (.int p2), .val (.int p3), .val (.int p4), .val (.int p5), .val (.ref ss), .unset, .unset, .unset, .unset, .unset, .unset, .unset] [])) (fun t k => st17 t k) ?_
  refine own_step (B := T17.setTop (mkF m 71 #[.val (.int p0), .val (.int p1), .val (.int p2), .val (.int p3), .val (.int p4), .val (.int p5), .val (.ref ss), .unset, .unset, .unset, .unset, .unset, .unset, .unset] [(.ref ss)])) (fun t k => XS.aload X17.here hx rfl (hb hby at_69) rfl rfl k) ?_
  refine own_step (B := T17.setTop (mkF m 72 #[.val (.int p0), .val (.int p1), .val (.int p2), .val (.int p3), .val (.int p4), .val (.int p5), .val (.ref ss), .unset, .unset, .unset, .unset, .unset, .unset, .unset] [(.int (5 : Int32)), (.ref ss)])) (fun t k => XS.iconst X17.here hx rfl (hb hby at_71) k) ?_
  refine own_step (B := T17.setTop (mkF m 74 #[.val (.int p0), .val (.int p1), .val (.int p2), .val (.int p3), .val (.int p4), .val (.int p5), .val (.ref ss), .unset, .unset, .unset, .unset, .unset, .unset, .unset] [(.int p4), (.int (5 : Int32)), (.ref ss)])) (fun t k => XS.iload X17.here hx rfl (hb hby at_72) rfl k) ?_
  refine own_step (B := T17.setTop (mkF m 76 #[.val (.int p0), .val (.int p1), .val (.int p2), .val (.int p3), .val (.int p4), .val (.int p5), .val (.ref ss), .unset, .unset, .unset, .unset, .unset, .unset, .unset] [(.int (10 : Int32)), (.int p4), (.int (5 : Int32)), (.ref ss)])) (fun t k => XS.bipush X17.here hx rfl (hb hby at_74) k) ?_
  refine own_step (B := T17.setTop (mkF m 77 #[.val (.int p0), .val (.int p1), .val (.int p2), .val (.int p3), .val (.int p4), .val (.int p5), .val (.ref ss), .unset, .unset, .unset, .unset, .unset, .unset, .unset] [(.int ((p4.toUInt32 >>> ((10 : Int32) &&& 31).toUInt32).toInt32)), (.int (5 : Int32)), (.ref ss)])) (fun t k => XS.iushr X17.here hx rfl (hb hby at_76) rfl k) ?_
  refine own_step (B := T17.setTop (mkF m 78 #[.val (.int p0), .val (.int p1), .val (.int p2), .val (.int p3), .val (.int p4), .val (.int p5), .val (.ref ss), .unset, .unset, .unset, .unset, .unset, .unset, .unset] [(.int (3 : Int32)), (.int ((p4.toUInt32 >>> ((10 : Int32) &&& 31).toUInt32).toInt32)), (.int (5 : Int32)), (.ref ss)])) (fun t k => XS.iconst X17.here hx rfl (hb hby at_77) k) ?_
  refine own_step (B := T17.setTop (mkF m 79 #[.val (.int p0), .val (.int p1), .val (.int p2), .val (.int p3), .val (.int p4), .val (.int p5), .val (.ref ss), .unset, .unset, .unset, .unset, .unset, .unset, .unset] [(.int (((p4.toUInt32 >>> ((10 : Int32) &&& 31).toUInt32).toInt32) &&& (3 : Int32))), (.int (5 : Int32)), (.ref ss)])) (fun t k => XS.iand X17.here hx rfl (hb hby at_78) rfl k) ?_
  refine own_step (B := T17.setTop (mkF m 80 #[.val (.int p0), .val (.int p1), .val (.int p2), .val (.int p3), .val (.int p4), .val (.int p5), .val (.ref ss), .unset, .unset, .unset, .unset, .unset, .unset, .unset] [(.int p0), (.int (((p4.toUInt32 >>> ((10 : Int32) &&& 31).toUInt32).toInt32) &&& (3 : Int32))), (.int (5 : Int32)), (.ref ss)])) (fun t k => XS.iloadN X17.here hx rfl (hb hby at_79) rfl k) ?_
  refine own_step (B := T17.setTop (mkF m 81 #[.val (.int p0), .val (.int p1), .val (.int p2), .val (.int p3), .val (.int p4), .val (.int p5), .val (.ref ss), .unset, .unset, .unset, .unset, .unset, .unset, .unset] [(.int p1), (.int p0), (.int (((p4.toUInt32 >>> ((10 : Int32) &&& 31).toUInt32).toInt32) &&& (3 : Int32))), (.int (5 : Int32)), (.ref ss)])) (fun t k => XS.iloadN X17.here hx rfl (hb hby at_80) rfl k) ?_
  refine own_step (B := T17.setTop (mkF m 82 #[.val (.int p0), .val (.int p1), .val (.int p2), .val (.int p3), .val (.int p4), .val (.int p5), .val (.ref ss), .unset, .unset, .unset, .unset, .unset, .unset, .unset] [(.int p2), (.int p1), (.int p0), (.int (((p4.toUInt32 >>> ((10 : Int32) &&& 31).toUInt32).toInt32) &&& (3 : Int32))), (.int (5 : Int32)), (.ref ss)])) (fun t k => XS.iloadN X17.here hx rfl (hb hby at_81) rfl k) ?_
  obtain ⟨_, _, ⟨T18, L18, k18, n18⟩, -, X18, ⟨Lc18, hQ18, l18, y18, z18⟩, st18⟩ := Jvm.LawKit.callS X17 hx (y := (⟨"com/example/tightrope/tightrope/history/TransactionReadsFromOutsidePinLaw", "pick", "(IIII)I"⟩ : MethodName)) hown (mvT hZ (hw _ (List.mem_of_getElem? (i := 1) rfl))) (mvT hZ (hw _ (List.mem_of_getElem? (i := 2) rfl))) (mvT hZ (hw _ (List.mem_of_getElem? (i := 3) rfl))) (mvT hZ (hw _ (List.mem_of_getElem? (i := 4) rfl))) (by decide) (backOf (W := 2) (rm1 l Z a0 hw [] (((p4.toUInt32 >>> ((10 : Int32) &&& 31).toUInt32).toInt32) &&& (3 : Int32)) p0 p1 p2  h17 n0 Z0 ) hZ (hw _ (List.mem_of_getElem? (i := 4) rfl)) (hw _ (List.mem_of_getElem? (i := 3) rfl)) (by decide) (by decide)) (g := (mkF m 82 #[.val (.int p0), .val (.int p1), .val (.int p2), .val (.int p3), .val (.int p4), .val (.int p5), .val (.ref ss), .unset, .unset, .unset, .unset, .unset, .unset, .unset] [(.int p2), (.int p1), (.int p0), (.int (((p4.toUInt32 >>> ((10 : Int32) &&& 31).toUInt32).toInt32) &&& (3 : Int32))), (.int (5 : Int32)), (.ref ss)])) rfl (by rw [hml]; rfl) (argsL := [(.int (((p4.toUInt32 >>> ((10 : Int32) &&& 31).toUInt32).toInt32) &&& (3 : Int32))), (.int p0), (.int p1), (.int p2)]) (rest := [(.int (5 : Int32)), (.ref ss)]) (lenOf pd_1 rfl) rfl (by show 2 * 0 + _ ≤ _; exact Nat.le_of_eq rfl) (hb hby at_82) (fun _ _ => ⟨rfl, e17, (by decide : 1 + 0 ≤ _), (by decide : 12 + 0 ≤ _)⟩)
  dsimp only [Pt.U, Pt.locs, Pt.cells, Pt.slots] at X18 l18 y18 z18 st18 hQ18
  subst l18 y18 z18
  obtain ⟨v19, rfl, N18q, e_p19⟩ := hQ18
  have N0 := Fr.app N0 N18q
  refine own_step (B := T18.setTop (mkF m 85 #[.val (.int p0), .val (.int p1), .val (.int p2), .val (.int p3), .val (.int p4), .val (.int p5), .val (.ref ss), .unset, .unset, .unset, .unset, .unset, .unset, .unset] [(.int v19), (.int (5 : Int32)), (.ref ss)])) (fun t k => st18 t k) ?_
  have Vo_20 := V_ss
  obtain ⟨cl_20, Ar_20, q_20, S_20, M_20, H_20, G_20⟩ := Vo_20
  have hin21 : ¬ ((5 : Int32) < 0 ∨ cl_20.slots.size ≤ ((5 : Int32)).toNatClampNeg) := inb_of S_20 ⟨by decide, by decide⟩
  obtain ⟨T21, h21, X21, e21, W21, st21⟩ := stI X18 hx hZ e_p19 Ar_20 (j := (5 : Int32)) hin21 (g := (mkF m 85 #[.val (.int p0), .val (.int p1), .val (.int p2), .val (.int p3), .val (.int p4), .val (.int p5), .val (.ref ss), .unset, .unset, .unset, .unset, .unset, .unset, .unset] [(.int v19), (.int (5 : Int32)), (.ref ss)])) rfl rfl (hb hby at_85)
  have Z0 := Nat.le_trans Z0 (Keep.of_wr W21).1
  have N0 := Fr.snoc X21 N0 g_ss
  have V_ss := Arv.set Ar_20 q_20 S_20 M_20 H_20 G_20 rfl W21 5 rfl (Nat.le_of_ble_eq_true rfl)
  change Arv Z h21 ss k1 .int (12 : Int32) [(.int (p3 &&& (1 : Int32))), (.int v5), (.int v9), (.int (((p3.toUInt32 >>> ((1 : Int32) &&& 31).toUInt32).toInt32) &&& (1 : Int32))), (.int v15), (.int v19), (.int (0 : Int32)), (.int (0 : Int32)), (.int (0 : Int32)), (.int (0 : Int32)), (.int (0 : Int32)), (.int (0 : Int32))] (.int (0 : Int32)) at V_ss
  refine own_step (B := T21.setTop (mkF m 86 #[.val (.int p0), .val (.int p1), .val (.int p2), .val (.int p3), .val (.int p4), .val (.int p5), .val (.ref ss), .unset, .unset, .unset, .unset, .unset, .unset, .unset] [])) (fun t k => st21 t k) ?_
  refine own_step (B := T21.setTop (mkF m 88 #[.val (.int p0), .val (.int p1), .val (.int p2), .val (.int p3), .val (.int p4), .val (.int p5), .val (.ref ss), .unset, .unset, .unset, .unset, .unset, .unset, .unset] [(.ref ss)])) (fun t k => XS.aload X21.here hx rfl (hb hby at_86) rfl rfl k) ?_
  refine own_step (B := T21.setTop (mkF m 90 #[.val (.int p0), .val (.int p1), .val (.int p2), .val (.int p3), .val (.int p4), .val (.int p5), .val (.ref ss), .unset, .unset, .unset, .unset, .unset, .unset, .unset] [(.int (6 : Int32)), (.ref ss)])) (fun t k => XS.bipush X21.here hx rfl (hb hby at_88) k) ?_
  refine own_step (B := T21.setTop (mkF m 91 #[.val (.int p0), .val (.int p1), .val (.int p2), .val (.int p3), .val (.int p4), .val (.int p5), .val (.ref ss), .unset, .unset, .unset, .unset, .unset, .unset, .unset] [(.int p3), (.int (6 : Int32)), (.ref ss)])) (fun t k => XS.iloadN X21.here hx rfl (hb hby at_90) rfl k) ?_
  refine own_step (B := T21.setTop (mkF m 92 #[.val (.int p0), .val (.int p1), .val (.int p2), .val (.int p3), .val (.int p4), .val (.int p5), .val (.ref ss), .unset, .unset, .unset, .unset, .unset, .unset, .unset] [(.int (2 : Int32)), (.int p3), (.int (6 : Int32)), (.ref ss)])) (fun t k => XS.iconst X21.here hx rfl (hb hby at_91) k) ?_
  refine own_step (B := T21.setTop (mkF m 93 #[.val (.int p0), .val (.int p1), .val (.int p2), .val (.int p3), .val (.int p4), .val (.int p5), .val (.ref ss), .unset, .unset, .unset, .unset, .unset, .unset, .unset] [(.int ((p3.toUInt32 >>> ((2 : Int32) &&& 31).toUInt32).toInt32)), (.int (6 : Int32)), (.ref ss)])) (fun t k => XS.iushr X21.here hx rfl (hb hby at_92) rfl k) ?_
  refine own_step (B := T21.setTop (mkF m 94 #[.val (.int p0), .val (.int p1), .val (.int p2), .val (.int p3), .val (.int p4), .val (.int p5), .val (.ref ss), .unset, .unset, .unset, .unset, .unset, .unset, .unset] [(.int (1 : Int32)), (.int ((p3.toUInt32 >>> ((2 : Int32) &&& 31).toUInt32).toInt32)), (.int (6 : Int32)), (.ref ss)])) (fun t k => XS.iconst X21.here hx rfl (hb hby at_93) k) ?_
  refine own_step (B := T21.setTop (mkF m 95 #[.val (.int p0), .val (.int p1), .val (.int p2), .val (.int p3), .val (.int p4), .val (.int p5), .val (.ref ss), .unset, .unset, .unset, .unset, .unset, .unset, .unset] [(.int (((p3.toUInt32 >>> ((2 : Int32) &&& 31).toUInt32).toInt32) &&& (1 : Int32))), (.int (6 : Int32)), (.ref ss)])) (fun t k => XS.iand X21.here hx rfl (hb hby at_94) rfl k) ?_
  have Vo_22 := V_ss
  obtain ⟨cl_22, Ar_22, q_22, S_22, M_22, H_22, G_22⟩ := Vo_22
  have hin23 : ¬ ((6 : Int32) < 0 ∨ cl_22.slots.size ≤ ((6 : Int32)).toNatClampNeg) := inb_of S_22 ⟨by decide, by decide⟩
  obtain ⟨T23, h23, X23, e23, W23, st23⟩ := stI X21 hx hZ e21 Ar_22 (j := (6 : Int32)) hin23 (g := (mkF m 95 #[.val (.int p0), .val (.int p1), .val (.int p2), .val (.int p3), .val (.int p4), .val (.int p5), .val (.ref ss), .unset, .unset, .unset, .unset, .unset, .unset, .unset] [(.int (((p3.toUInt32 >>> ((2 : Int32) &&& 31).toUInt32).toInt32) &&& (1 : Int32))), (.int (6 : Int32)), (.ref ss)])) rfl rfl (hb hby at_95)
  have Z0 := Nat.le_trans Z0 (Keep.of_wr W23).1
  have N0 := Fr.snoc X23 N0 g_ss
  have V_ss := Arv.set Ar_22 q_22 S_22 M_22 H_22 G_22 rfl W23 6 rfl (Nat.le_of_ble_eq_true rfl)
  change Arv Z h23 ss k1 .int (12 : Int32) [(.int (p3 &&& (1 : Int32))), (.int v5), (.int v9), (.int (((p3.toUInt32 >>> ((1 : Int32) &&& 31).toUInt32).toInt32) &&& (1 : Int32))), (.int v15), (.int v19), (.int (((p3.toUInt32 >>> ((2 : Int32) &&& 31).toUInt32).toInt32) &&& (1 : Int32))), (.int (0 : Int32)), (.int (0 : Int32)), (.int (0 : Int32)), (.int (0 : Int32)), (.int (0 : Int32))] (.int (0 : Int32)) at V_ss
  refine own_step (B := T23.setTop (mkF m 96 #[.val (.int p0), .val (.int p1), .val (.int p2), .val (.int p3), .val (.int p4), .val (.int p5), .val (.ref ss), .unset, .unset, .unset, .unset, .unset, .unset, .unset] [])) (fun t k => st23 t k) ?_
  refine own_step (B := T23.setTop (mkF m 98 #[.val (.int p0), .val (.int p1), .val (.int p2), .val (.int p3), .val (.int p4), .val (.int p5), .val (.ref ss), .unset, .unset, .unset, .unset, .unset, .unset, .unset] [(.ref ss)])) (fun t k => XS.aload X23.here hx rfl (hb hby at_96) rfl rfl k) ?_
  refine own_step (B := T23.setTop (mkF m 100 #[.val (.int p0), .val (.int p1), .val (.int p2), .val (.int p3), .val (.int p4), .val (.int p5), .val (.ref ss), .unset, .unset, .unset, .unset, .unset, .unset, .unset] [(.int (7 : Int32)), (.ref ss)])) (fun t k => XS.bipush X23.here hx rfl (hb hby at_98) k) ?_
  refine own_step (B := T23.setTop (mkF m 102 #[.val (.int p0), .val (.int p1), .val (.int p2), .val (.int p3), .val (.int p4), .val (.int p5), .val (.ref ss), .unset, .unset, .unset, .unset, .unset, .unset, .unset] [(.int p4), (.int (7 : Int32)), (.ref ss)])) (fun t k => XS.iload X23.here hx rfl (hb hby at_100) rfl k) ?_
  refine own_step (B := T23.setTop (mkF m 103 #[.val (.int p0), .val (.int p1), .val (.int p2), .val (.int p3), .val (.int p4), .val (.int p5), .val (.ref ss), .unset, .unset, .unset, .unset, .unset, .unset, .unset] [(.int (4 : Int32)), (.int p4), (.int (7 : Int32)), (.ref ss)])) (fun t k => XS.iconst X23.here hx rfl (hb hby at_102) k) ?_
  refine own_step (B := T23.setTop (mkF m 104 #[.val (.int p0), .val (.int p1), .val (.int p2), .val (.int p3), .val (.int p4), .val (.int p5), .val (.ref ss), .unset, .unset, .unset, .unset, .unset, .unset, .unset] [(.int ((p4.toUInt32 >>> ((4 : Int32) &&& 31).toUInt32).toInt32)), (.int (7 : Int32)), (.ref ss)])) (fun t k => XS.iushr X23.here hx rfl (hb hby at_103) rfl k) ?_
  refine own_step (B := T23.setTop (mkF m 105 #[.val (.int p0), .val (.int p1), .val (.int p2), .val (.int p3), .val (.int p4), .val (.int p5), .val (.ref ss), .unset, .unset, .unset, .unset, .unset, .unset, .unset] [(.int (3 : Int32)), (.int ((p4.toUInt32 >>> ((4 : Int32) &&& 31).toUInt32).toInt32)), (.int (7 : Int32)), (.ref ss)])) (fun t k => XS.iconst X23.here hx rfl (hb hby at_104) k) ?_
  refine own_step (B := T23.setTop (mkF m 106 #[.val (.int p0), .val (.int p1), .val (.int p2), .val (.int p3), .val (.int p4), .val (.int p5), .val (.ref ss), .unset, .unset, .unset, .unset, .unset, .unset, .unset] [(.int (((p4.toUInt32 >>> ((4 : Int32) &&& 31).toUInt32).toInt32) &&& (3 : Int32))), (.int (7 : Int32)), (.ref ss)])) (fun t k => XS.iand X23.here hx rfl (hb hby at_105) rfl k) ?_
  refine own_step (B := T23.setTop (mkF m 107 #[.val (.int p0), .val (.int p1), .val (.int p2), .val (.int p3), .val (.int p4), .val (.int p5), .val (.ref ss), .unset, .unset, .unset, .unset, .unset, .unset, .unset] [(.int p0), (.int (((p4.toUInt32 >>> ((4 : Int32) &&& 31).toUInt32).toInt32) &&& (3 : Int32))), (.int (7 : Int32)), (.ref ss)])) (fun t k => XS.iloadN X23.here hx rfl (hb hby at_106) rfl k) ?_
  refine own_step (B := T23.setTop (mkF m 108 #[.val (.int p0), .val (.int p1), .val (.int p2), .val (.int p3), .val (.int p4), .val (.int p5), .val (.ref ss), .unset, .unset, .unset, .unset, .unset, .unset, .unset] [(.int p1), (.int p0), (.int (((p4.toUInt32 >>> ((4 : Int32) &&& 31).toUInt32).toInt32) &&& (3 : Int32))), (.int (7 : Int32)), (.ref ss)])) (fun t k => XS.iloadN X23.here hx rfl (hb hby at_107) rfl k) ?_
  refine own_step (B := T23.setTop (mkF m 109 #[.val (.int p0), .val (.int p1), .val (.int p2), .val (.int p3), .val (.int p4), .val (.int p5), .val (.ref ss), .unset, .unset, .unset, .unset, .unset, .unset, .unset] [(.int p2), (.int p1), (.int p0), (.int (((p4.toUInt32 >>> ((4 : Int32) &&& 31).toUInt32).toInt32) &&& (3 : Int32))), (.int (7 : Int32)), (.ref ss)])) (fun t k => XS.iloadN X23.here hx rfl (hb hby at_108) rfl k) ?_
  obtain ⟨_, _, ⟨T24, L24, k24, n24⟩, -, X24, ⟨Lc24, hQ24, l24, y24, z24⟩, st24⟩ := Jvm.LawKit.callS X23 hx (y := (⟨"com/example/tightrope/tightrope/history/TransactionReadsFromOutsidePinLaw", "pick", "(IIII)I"⟩ : MethodName)) hown (mvT hZ (hw _ (List.mem_of_getElem? (i := 1) rfl))) (mvT hZ (hw _ (List.mem_of_getElem? (i := 2) rfl))) (mvT hZ (hw _ (List.mem_of_getElem? (i := 3) rfl))) (mvT hZ (hw _ (List.mem_of_getElem? (i := 4) rfl))) (by decide) (backOf (W := 2) (rm1 l Z a0 hw [] (((p4.toUInt32 >>> ((4 : Int32) &&& 31).toUInt32).toInt32) &&& (3 : Int32)) p0 p1 p2  h23 n0 Z0 ) hZ (hw _ (List.mem_of_getElem? (i := 4) rfl)) (hw _ (List.mem_of_getElem? (i := 3) rfl)) (by decide) (by decide)) (g := (mkF m 109 #[.val (.int p0), .val (.int p1), .val (.int p2), .val (.int p3), .val (.int p4), .val (.int p5), .val (.ref ss), .unset, .unset, .unset, .unset, .unset, .unset, .unset] [(.int p2), (.int p1), (.int p0), (.int (((p4.toUInt32 >>> ((4 : Int32) &&& 31).toUInt32).toInt32) &&& (3 : Int32))), (.int (7 : Int32)), (.ref ss)])) rfl (by rw [hml]; rfl) (argsL := [(.int (((p4.toUInt32 >>> ((4 : Int32) &&& 31).toUInt32).toInt32) &&& (3 : Int32))), (.int p0), (.int p1), (.int p2)]) (rest := [(.int (7 : Int32)), (.ref ss)]) (lenOf pd_1 rfl) rfl (by show 2 * 0 + _ ≤ _; exact Nat.le_of_eq rfl) (hb hby at_109) (fun _ _ => ⟨rfl, e23, (by decide : 1 + 0 ≤ _), (by decide : 12 + 0 ≤ _)⟩)
  dsimp only [Pt.U, Pt.locs, Pt.cells, Pt.slots] at X24 l24 y24 z24 st24 hQ24
  subst l24 y24 z24
  obtain ⟨v25, rfl, N24q, e_p25⟩ := hQ24
  have N0 := Fr.app N0 N24q
  refine own_step (B := T24.setTop (mkF m 112 #[.val (.int p0), .val (.int p1), .val (.int p2), .val (.int p3), .val (.int p4), .val (.int p5), .val (.ref ss), .unset, .unset, .unset, .unset, .unset, .unset, .unset] [(.int v25), (.int (7 : Int32)), (.ref ss)])) (fun t k => st24 t k) ?_
  have Vo_26 := V_ss
  obtain ⟨cl_26, Ar_26, q_26, S_26, M_26, H_26, G_26⟩ := Vo_26
  have hin27 : ¬ ((7 : Int32) < 0 ∨ cl_26.slots.size ≤ ((7 : Int32)).toNatClampNeg) := inb_of S_26 ⟨by decide, by decide⟩
  obtain ⟨T27, h27, X27, e27, W27, st27⟩ := stI X24 hx hZ e_p25 Ar_26 (j := (7 : Int32)) hin27 (g := (mkF m 112 #[.val (.int p0), .val (.int p1), .val (.int p2), .val (.int p3), .val (.int p4), .val (.int p5), .val (.ref ss), .unset, .unset, .unset, .unset, .unset, .unset, .unset] [(.int v25), (.int (7 : Int32)), (.ref ss)])) rfl rfl (hb hby at_112)
  have Z0 := Nat.le_trans Z0 (Keep.of_wr W27).1
  have N0 := Fr.snoc X27 N0 g_ss
  have V_ss := Arv.set Ar_26 q_26 S_26 M_26 H_26 G_26 rfl W27 7 rfl (Nat.le_of_ble_eq_true rfl)
  change Arv Z h27 ss k1 .int (12 : Int32) [(.int (p3 &&& (1 : Int32))), (.int v5), (.int v9), (.int (((p3.toUInt32 >>> ((1 : Int32) &&& 31).toUInt32).toInt32) &&& (1 : Int32))), (.int v15), (.int v19), (.int (((p3.toUInt32 >>> ((2 : Int32) &&& 31).toUInt32).toInt32) &&& (1 : Int32))), (.int v25), (.int (0 : Int32)), (.int (0 : Int32)), (.int (0 : Int32)), (.int (0 : Int32))] (.int (0 : Int32)) at V_ss
  refine own_step (B := T27.setTop (mkF m 113 #[.val (.int p0), .val (.int p1), .val (.int p2), .val (.int p3), .val (.int p4), .val (.int p5), .val (.ref ss), .unset, .unset, .unset, .unset, .unset, .unset, .unset] [])) (fun t k => st27 t k) ?_
  refine own_step (B := T27.setTop (mkF m 115 #[.val (.int p0), .val (.int p1), .val (.int p2), .val (.int p3), .val (.int p4), .val (.int p5), .val (.ref ss), .unset, .unset, .unset, .unset, .unset, .unset, .unset] [(.ref ss)])) (fun t k => XS.aload X27.here hx rfl (hb hby at_113) rfl rfl k) ?_
  refine own_step (B := T27.setTop (mkF m 117 #[.val (.int p0), .val (.int p1), .val (.int p2), .val (.int p3), .val (.int p4), .val (.int p5), .val (.ref ss), .unset, .unset, .unset, .unset, .unset, .unset, .unset] [(.int (8 : Int32)), (.ref ss)])) (fun t k => XS.bipush X27.here hx rfl (hb hby at_115) k) ?_
  refine own_step (B := T27.setTop (mkF m 119 #[.val (.int p0), .val (.int p1), .val (.int p2), .val (.int p3), .val (.int p4), .val (.int p5), .val (.ref ss), .unset, .unset, .unset, .unset, .unset, .unset, .unset] [(.int p4), (.int (8 : Int32)), (.ref ss)])) (fun t k => XS.iload X27.here hx rfl (hb hby at_117) rfl k) ?_
  refine own_step (B := T27.setTop (mkF m 121 #[.val (.int p0), .val (.int p1), .val (.int p2), .val (.int p3), .val (.int p4), .val (.int p5), .val (.ref ss), .unset, .unset, .unset, .unset, .unset, .unset, .unset] [(.int (12 : Int32)), (.int p4), (.int (8 : Int32)), (.ref ss)])) (fun t k => XS.bipush X27.here hx rfl (hb hby at_119) k) ?_
  refine own_step (B := T27.setTop (mkF m 122 #[.val (.int p0), .val (.int p1), .val (.int p2), .val (.int p3), .val (.int p4), .val (.int p5), .val (.ref ss), .unset, .unset, .unset, .unset, .unset, .unset, .unset] [(.int ((p4.toUInt32 >>> ((12 : Int32) &&& 31).toUInt32).toInt32)), (.int (8 : Int32)), (.ref ss)])) (fun t k => XS.iushr X27.here hx rfl (hb hby at_121) rfl k) ?_
  refine own_step (B := T27.setTop (mkF m 123 #[.val (.int p0), .val (.int p1), .val (.int p2), .val (.int p3), .val (.int p4), .val (.int p5), .val (.ref ss), .unset, .unset, .unset, .unset, .unset, .unset, .unset] [(.int (3 : Int32)), (.int ((p4.toUInt32 >>> ((12 : Int32) &&& 31).toUInt32).toInt32)), (.int (8 : Int32)), (.ref ss)])) (fun t k => XS.iconst X27.here hx rfl (hb hby at_122) k) ?_
  refine own_step (B := T27.setTop (mkF m 124 #[.val (.int p0), .val (.int p1), .val (.int p2), .val (.int p3), .val (.int p4), .val (.int p5), .val (.ref ss), .unset, .unset, .unset, .unset, .unset, .unset, .unset] [(.int (((p4.toUInt32 >>> ((12 : Int32) &&& 31).toUInt32).toInt32) &&& (3 : Int32))), (.int (8 : Int32)), (.ref ss)])) (fun t k => XS.iand X27.here hx rfl (hb hby at_123) rfl k) ?_
  refine own_step (B := T27.setTop (mkF m 125 #[.val (.int p0), .val (.int p1), .val (.int p2), .val (.int p3), .val (.int p4), .val (.int p5), .val (.ref ss), .unset, .unset, .unset, .unset, .unset, .unset, .unset] [(.int p0), (.int (((p4.toUInt32 >>> ((12 : Int32) &&& 31).toUInt32).toInt32) &&& (3 : Int32))), (.int (8 : Int32)), (.ref ss)])) (fun t k => XS.iloadN X27.here hx rfl (hb hby at_124) rfl k) ?_
  refine own_step (B := T27.setTop (mkF m 126 #[.val (.int p0), .val (.int p1), .val (.int p2), .val (.int p3), .val (.int p4), .val (.int p5), .val (.ref ss), .unset, .unset, .unset, .unset, .unset, .unset, .unset] [(.int p1), (.int p0), (.int (((p4.toUInt32 >>> ((12 : Int32) &&& 31).toUInt32).toInt32) &&& (3 : Int32))), (.int (8 : Int32)), (.ref ss)])) (fun t k => XS.iloadN X27.here hx rfl (hb hby at_125) rfl k) ?_
  refine own_step (B := T27.setTop (mkF m 127 #[.val (.int p0), .val (.int p1), .val (.int p2), .val (.int p3), .val (.int p4), .val (.int p5), .val (.ref ss), .unset, .unset, .unset, .unset, .unset, .unset, .unset] [(.int p2), (.int p1), (.int p0), (.int (((p4.toUInt32 >>> ((12 : Int32) &&& 31).toUInt32).toInt32) &&& (3 : Int32))), (.int (8 : Int32)), (.ref ss)])) (fun t k => XS.iloadN X27.here hx rfl (hb hby at_126) rfl k) ?_
  obtain ⟨_, _, ⟨T28, L28, k28, n28⟩, -, X28, ⟨Lc28, hQ28, l28, y28, z28⟩, st28⟩ := Jvm.LawKit.callS X27 hx (y := (⟨"com/example/tightrope/tightrope/history/TransactionReadsFromOutsidePinLaw", "pick", "(IIII)I"⟩ : MethodName)) hown (mvT hZ (hw _ (List.mem_of_getElem? (i := 1) rfl))) (mvT hZ (hw _ (List.mem_of_getElem? (i := 2) rfl))) (mvT hZ (hw _ (List.mem_of_getElem? (i := 3) rfl))) (mvT hZ (hw _ (List.mem_of_getElem? (i := 4) rfl))) (by decide) (backOf (W := 2) (rm1 l Z a0 hw [] (((p4.toUInt32 >>> ((12 : Int32) &&& 31).toUInt32).toInt32) &&& (3 : Int32)) p0 p1 p2  h27 n0 Z0 ) hZ (hw _ (List.mem_of_getElem? (i := 4) rfl)) (hw _ (List.mem_of_getElem? (i := 3) rfl)) (by decide) (by decide)) (g := (mkF m 127 #[.val (.int p0), .val (.int p1), .val (.int p2), .val (.int p3), .val (.int p4), .val (.int p5), .val (.ref ss), .unset, .unset, .unset, .unset, .unset, .unset, .unset] [(.int p2), (.int p1), (.int p0), (.int (((p4.toUInt32 >>> ((12 : Int32) &&& 31).toUInt32).toInt32) &&& (3 : Int32))), (.int (8 : Int32)), (.ref ss)])) rfl (by rw [hml]; rfl) (argsL := [(.int (((p4.toUInt32 >>> ((12 : Int32) &&& 31).toUInt32).toInt32) &&& (3 : Int32))), (.int p0), (.int p1), (.int p2)]) (rest := [(.int (8 : Int32)), (.ref ss)]) (lenOf pd_1 rfl) rfl (by show 2 * 0 + _ ≤ _; exact Nat.le_of_eq rfl) (hb hby at_127) (fun _ _ => ⟨rfl, e27, (by decide : 1 + 0 ≤ _), (by decide : 12 + 0 ≤ _)⟩)
  dsimp only [Pt.U, Pt.locs, Pt.cells, Pt.slots] at X28 l28 y28 z28 st28 hQ28
  subst l28 y28 z28
  obtain ⟨v29, rfl, N28q, e_p29⟩ := hQ28
  have N0 := Fr.app N0 N28q
  refine own_step (B := T28.setTop (mkF m 130 #[.val (.int p0), .val (.int p1), .val (.int p2), .val (.int p3), .val (.int p4), .val (.int p5), .val (.ref ss), .unset, .unset, .unset, .unset, .unset, .unset, .unset] [(.int v29), (.int (8 : Int32)), (.ref ss)])) (fun t k => st28 t k) ?_
  have Vo_30 := V_ss
  obtain ⟨cl_30, Ar_30, q_30, S_30, M_30, H_30, G_30⟩ := Vo_30
  have hin31 : ¬ ((8 : Int32) < 0 ∨ cl_30.slots.size ≤ ((8 : Int32)).toNatClampNeg) := inb_of S_30 ⟨by decide, by decide⟩
  obtain ⟨T31, h31, X31, e31, W31, st31⟩ := stI X28 hx hZ e_p29 Ar_30 (j := (8 : Int32)) hin31 (g := (mkF m 130 #[.val (.int p0), .val (.int p1), .val (.int p2), .val (.int p3), .val (.int p4), .val (.int p5), .val (.ref ss), .unset, .unset, .unset, .unset, .unset, .unset, .unset] [(.int v29), (.int (8 : Int32)), (.ref ss)])) rfl rfl (hb hby at_130)
  have Z0 := Nat.le_trans Z0 (Keep.of_wr W31).1
  have N0 := Fr.snoc X31 N0 g_ss
  have V_ss := Arv.set Ar_30 q_30 S_30 M_30 H_30 G_30 rfl W31 8 rfl (Nat.le_of_ble_eq_true rfl)
  change Arv Z h31 ss k1 .int (12 : Int32) [(.int (p3 &&& (1 : Int32))), (.int v5), (.int v9), (.int (((p3.toUInt32 >>> ((1 : Int32) &&& 31).toUInt32).toInt32) &&& (1 : Int32))), (.int v15), (.int v19), (.int (((p3.toUInt32 >>> ((2 : Int32) &&& 31).toUInt32).toInt32) &&& (1 : Int32))), (.int v25), (.int v29), (.int (0 : Int32)), (.int (0 : Int32)), (.int (0 : Int32))] (.int (0 : Int32)) at V_ss
  refine own_step (B := T31.setTop (mkF m 131 #[.val (.int p0), .val (.int p1), .val (.int p2), .val (.int p3), .val (.int p4), .val (.int p5), .val (.ref ss), .unset, .unset, .unset, .unset, .unset, .unset, .unset] [])) (fun t k => st31 t k) ?_
  refine own_step (B := T31.setTop (mkF m 133 #[.val (.int p0), .val (.int p1), .val (.int p2), .val (.int p3), .val (.int p4), .val (.int p5), .val (.ref ss), .unset, .unset, .unset, .unset, .unset, .unset, .unset] [(.ref ss)])) (fun t k => XS.aload X31.here hx rfl (hb hby at_131) rfl rfl k) ?_
  refine own_step (B := T31.setTop (mkF m 135 #[.val (.int p0), .val (.int p1), .val (.int p2), .val (.int p3), .val (.int p4), .val (.int p5), .val (.ref ss), .unset, .unset, .unset, .unset, .unset, .unset, .unset] [(.int (9 : Int32)), (.ref ss)])) (fun t k => XS.bipush X31.here hx rfl (hb hby at_133) k) ?_
  refine own_step (B := T31.setTop (mkF m 136 #[.val (.int p0), .val (.int p1), .val (.int p2), .val (.int p3), .val (.int p4), .val (.int p5), .val (.ref ss), .unset, .unset, .unset, .unset, .unset, .unset, .unset] [(.int p3), (.int (9 : Int32)), (.ref ss)])) (fun t k => XS.iloadN X31.here hx rfl (hb hby at_135) rfl k) ?_
  refine own_step (B := T31.setTop (mkF m 137 #[.val (.int p0), .val (.int p1), .val (.int p2), .val (.int p3), .val (.int p4), .val (.int p5), .val (.ref ss), .unset, .unset, .unset, .unset, .unset, .unset, .unset] [(.int (3 : Int32)), (.int p3), (.int (9 : Int32)), (.ref ss)])) (fun t k => XS.iconst X31.here hx rfl (hb hby at_136) k) ?_
  refine own_step (B := T31.setTop (mkF m 138 #[.val (.int p0), .val (.int p1), .val (.int p2), .val (.int p3), .val (.int p4), .val (.int p5), .val (.ref ss), .unset, .unset, .unset, .unset, .unset, .unset, .unset] [(.int ((p3.toUInt32 >>> ((3 : Int32) &&& 31).toUInt32).toInt32)), (.int (9 : Int32)), (.ref ss)])) (fun t k => XS.iushr X31.here hx rfl (hb hby at_137) rfl k) ?_
  refine own_step (B := T31.setTop (mkF m 139 #[.val (.int p0), .val (.int p1), .val (.int p2), .val (.int p3), .val (.int p4), .val (.int p5), .val (.ref ss), .unset, .unset, .unset, .unset, .unset, .unset, .unset] [(.int (1 : Int32)), (.int ((p3.toUInt32 >>> ((3 : Int32) &&& 31).toUInt32).toInt32)), (.int (9 : Int32)), (.ref ss)])) (fun t k => XS.iconst X31.here hx rfl (hb hby at_138) k) ?_
  refine own_step (B := T31.setTop (mkF m 140 #[.val (.int p0), .val (.int p1), .val (.int p2), .val (.int p3), .val (.int p4), .val (.int p5), .val (.ref ss), .unset, .unset, .unset, .unset, .unset, .unset, .unset] [(.int (((p3.toUInt32 >>> ((3 : Int32) &&& 31).toUInt32).toInt32) &&& (1 : Int32))), (.int (9 : Int32)), (.ref ss)])) (fun t k => XS.iand X31.here hx rfl (hb hby at_139) rfl k) ?_
  have Vo_32 := V_ss
  obtain ⟨cl_32, Ar_32, q_32, S_32, M_32, H_32, G_32⟩ := Vo_32
  have hin33 : ¬ ((9 : Int32) < 0 ∨ cl_32.slots.size ≤ ((9 : Int32)).toNatClampNeg) := inb_of S_32 ⟨by decide, by decide⟩
  obtain ⟨T33, h33, X33, e33, W33, st33⟩ := stI X31 hx hZ e31 Ar_32 (j := (9 : Int32)) hin33 (g := (mkF m 140 #[.val (.int p0), .val (.int p1), .val (.int p2), .val (.int p3), .val (.int p4), .val (.int p5), .val (.ref ss), .unset, .unset, .unset, .unset, .unset, .unset, .unset] [(.int (((p3.toUInt32 >>> ((3 : Int32) &&& 31).toUInt32).toInt32) &&& (1 : Int32))), (.int (9 : Int32)), (.ref ss)])) rfl rfl (hb hby at_140)
  have Z0 := Nat.le_trans Z0 (Keep.of_wr W33).1
  have N0 := Fr.snoc X33 N0 g_ss
  have V_ss := Arv.set Ar_32 q_32 S_32 M_32 H_32 G_32 rfl W33 9 rfl (Nat.le_of_ble_eq_true rfl)
  change Arv Z h33 ss k1 .int (12 : Int32) [(.int (p3 &&& (1 : Int32))), (.int v5), (.int v9), (.int (((p3.toUInt32 >>> ((1 : Int32) &&& 31).toUInt32).toInt32) &&& (1 : Int32))), (.int v15), (.int v19), (.int (((p3.toUInt32 >>> ((2 : Int32) &&& 31).toUInt32).toInt32) &&& (1 : Int32))), (.int v25), (.int v29), (.int (((p3.toUInt32 >>> ((3 : Int32) &&& 31).toUInt32).toInt32) &&& (1 : Int32))), (.int (0 : Int32)), (.int (0 : Int32))] (.int (0 : Int32)) at V_ss
  refine own_step (B := T33.setTop (mkF m 141 #[.val (.int p0), .val (.int p1), .val (.int p2), .val (.int p3), .val (.int p4), .val (.int p5), .val (.ref ss), .unset, .unset, .unset, .unset, .unset, .unset, .unset] [])) (fun t k => st33 t k) ?_
  refine own_step (B := T33.setTop (mkF m 143 #[.val (.int p0), .val (.int p1), .val (.int p2), .val (.int p3), .val (.int p4), .val (.int p5), .val (.ref ss), .unset, .unset, .unset, .unset, .unset, .unset, .unset] [(.ref ss)])) (fun t k => XS.aload X33.here hx rfl (hb hby at_141) rfl rfl k) ?_
  refine own_step (B := T33.setTop (mkF m 145 #[.val (.int p0), .val (.int p1), .val (.int p2), .val (.int p3), .val (.int p4), .val (.int p5), .val (.ref ss), .unset, .unset, .unset, .unset, .unset, .unset, .unset] [(.int (10 : Int32)), (.ref ss)])) (fun t k => XS.bipush X33.here hx rfl (hb hby at_143) k) ?_
  refine own_step (B := T33.setTop (mkF m 147 #[.val (.int p0), .val (.int p1), .val (.int p2), .val (.int p3), .val (.int p4), .val (.int p5), .val (.ref ss), .unset, .unset, .unset, .unset, .unset, .unset, .unset] [(.int p4), (.int (10 : Int32)), (.ref ss)])) (fun t k => XS.iload X33.here hx rfl (hb hby at_145) rfl k) ?_
  refine own_step (B := T33.setTop (mkF m 149 #[.val (.int p0), .val (.int p1), .val (.int p2), .val (.int p3), .val (.int p4), .val (.int p5), .val (.ref ss), .unset, .unset, .unset, .unset, .unset, .unset, .unset] [(.int (6 : Int32)), (.int p4), (.int (10 : Int32)), (.ref ss)])) (fun t k => XS.bipush X33.here hx rfl (hb hby at_147) k) ?_
  refine own_step (B := T33.setTop (mkF m 150 #[.val (.int p0), .val (.int p1), .val (.int p2), .val (.int p3), .val (.int p4), .val (.int p5), .val (.ref ss), .unset, .unset, .unset, .unset, .unset, .unset, .unset] [(.int ((p4.toUInt32 >>> ((6 : Int32) &&& 31).toUInt32).toInt32)), (.int (10 : Int32)), (.ref ss)])) (fun t k => XS.iushr X33.here hx rfl (hb hby at_149) rfl k) ?_
  refine own_step (B := T33.setTop (mkF m 151 #[.val (.int p0), .val (.int p1), .val (.int p2), .val (.int p3), .val (.int p4), .val (.int p5), .val (.ref ss), .unset, .unset, .unset, .unset, .unset, .unset, .unset] [(.int (3 : Int32)), (.int ((p4.toUInt32 >>> ((6 : Int32) &&& 31).toUInt32).toInt32)), (.int (10 : Int32)), (.ref ss)])) (fun t k => XS.iconst X33.here hx rfl (hb hby at_150) k) ?_
  refine own_step (B := T33.setTop (mkF m 152 #[.val (.int p0), .val (.int p1), .val (.int p2), .val (.int p3), .val (.int p4), .val (.int p5), .val (.ref ss), .unset, .unset, .unset, .unset, .unset, .unset, .unset] [(.int (((p4.toUInt32 >>> ((6 : Int32) &&& 31).toUInt32).toInt32) &&& (3 : Int32))), (.int (10 : Int32)), (.ref ss)])) (fun t k => XS.iand X33.here hx rfl (hb hby at_151) rfl k) ?_
  refine own_step (B := T33.setTop (mkF m 153 #[.val (.int p0), .val (.int p1), .val (.int p2), .val (.int p3), .val (.int p4), .val (.int p5), .val (.ref ss), .unset, .unset, .unset, .unset, .unset, .unset, .unset] [(.int p0), (.int (((p4.toUInt32 >>> ((6 : Int32) &&& 31).toUInt32).toInt32) &&& (3 : Int32))), (.int (10 : Int32)), (.ref ss)])) (fun t k => XS.iloadN X33.here hx rfl (hb hby at_152) rfl k) ?_
  refine own_step (B := T33.setTop (mkF m 154 #[.val (.int p0), .val (.int p1), .val (.int p2), .val (.int p3), .val (.int p4), .val (.int p5), .val (.ref ss), .unset, .unset, .unset, .unset, .unset, .unset, .unset] [(.int p1), (.int p0), (.int (((p4.toUInt32 >>> ((6 : Int32) &&& 31).toUInt32).toInt32) &&& (3 : Int32))), (.int (10 : Int32)), (.ref ss)])) (fun t k => XS.iloadN X33.here hx rfl (hb hby at_153) rfl k) ?_
  refine own_step (B := T33.setTop (mkF m 155 #[.val (.int p0), .val (.int p1), .val (.int p2), .val (.int p3), .val (.int p4), .val (.int p5), .val (.ref ss), .unset, .unset, .unset, .unset, .unset, .unset, .unset] [(.int p2), (.int p1), (.int p0), (.int (((p4.toUInt32 >>> ((6 : Int32) &&& 31).toUInt32).toInt32) &&& (3 : Int32))), (.int (10 : Int32)), (.ref ss)])) (fun t k => XS.iloadN X33.here hx rfl (hb hby at_154) rfl k) ?_
  obtain ⟨_, _, ⟨T34, L34, k34, n34⟩, -, X34, ⟨Lc34, hQ34, l34, y34, z34⟩, st34⟩ := Jvm.LawKit.callS X33 hx (y := (⟨"com/example/tightrope/tightrope/history/TransactionReadsFromOutsidePinLaw", "pick", "(IIII)I"⟩ : MethodName)) hown (mvT hZ (hw _ (List.mem_of_getElem? (i := 1) rfl))) (mvT hZ (hw _ (List.mem_of_getElem? (i := 2) rfl))) (mvT hZ (hw _ (List.mem_of_getElem? (i := 3) rfl))) (mvT hZ (hw _ (List.mem_of_getElem? (i := 4) rfl))) (by decide) (backOf (W := 2) (rm1 l Z a0 hw [] (((p4.toUInt32 >>> ((6 : Int32) &&& 31).toUInt32).toInt32) &&& (3 : Int32)) p0 p1 p2  h33 n0 Z0 ) hZ (hw _ (List.mem_of_getElem? (i := 4) rfl)) (hw _ (List.mem_of_getElem? (i := 3) rfl)) (by decide) (by decide)) (g := (mkF m 155 #[.val (.int p0), .val (.int p1), .val (.int p2), .val (.int p3), .val (.int p4), .val (.int p5), .val (.ref ss), .unset, .unset, .unset, .unset, .unset, .unset, .unset] [(.int p2), (.int p1), (.int p0), (.int (((p4.toUInt32 >>> ((6 : Int32) &&& 31).toUInt32).toInt32) &&& (3 : Int32))), (.int (10 : Int32)), (.ref ss)])) rfl (by rw [hml]; rfl) (argsL := [(.int (((p4.toUInt32 >>> ((6 : Int32) &&& 31).toUInt32).toInt32) &&& (3 : Int32))), (.int p0), (.int p1), (.int p2)]) (rest := [(.int (10 : Int32)), (.ref ss)]) (lenOf pd_1 rfl) rfl (by show 2 * 0 + _ ≤ _; exact Nat.le_of_eq rfl) (hb hby at_155) (fun _ _ => ⟨rfl, e33, (by decide : 1 + 0 ≤ _), (by decide : 12 + 0 ≤ _)⟩)
  dsimp only [Pt.U, Pt.locs, Pt.cells, Pt.slots] at X34 l34 y34 z34 st34 hQ34
  subst l34 y34 z34
  obtain ⟨v35, rfl, N34q, e_p35⟩ := hQ34
  have N0 := Fr.app N0 N34q
  refine own_step (B := T34.setTop (mkF m 158 #[.val (.int p0), .val (.int p1), .val (.int p2), .val (.int p3), .val (.int p4), .val (.int p5), .val (.ref ss), .unset, .unset, .unset, .unset, .unset, .unset, .unset] [(.int v35), (.int (10 : Int32)), (.ref ss)])) (fun t k => st34 t k) ?_
  have Vo_36 := V_ss
  obtain ⟨cl_36, Ar_36, q_36, S_36, M_36, H_36, G_36⟩ := Vo_36
  have hin37 : ¬ ((10 : Int32) < 0 ∨ cl_36.slots.size ≤ ((10 : Int32)).toNatClampNeg) := inb_of S_36 ⟨by decide, by decide⟩
  obtain ⟨T37, h37, X37, e37, W37, st37⟩ := stI X34 hx hZ e_p35 Ar_36 (j := (10 : Int32)) hin37 (g := (mkF m 158 #[.val (.int p0), .val (.int p1), .val (.int p2), .val (.int p3), .val (.int p4), .val (.int p5), .val (.ref ss), .unset, .unset, .unset, .unset, .unset, .unset, .unset] [(.int v35), (.int (10 : Int32)), (.ref ss)])) rfl rfl (hb hby at_158)
  have Z0 := Nat.le_trans Z0 (Keep.of_wr W37).1
  have N0 := Fr.snoc X37 N0 g_ss
  have V_ss := Arv.set Ar_36 q_36 S_36 M_36 H_36 G_36 rfl W37 10 rfl (Nat.le_of_ble_eq_true rfl)
  change Arv Z h37 ss k1 .int (12 : Int32) [(.int (p3 &&& (1 : Int32))), (.int v5), (.int v9), (.int (((p3.toUInt32 >>> ((1 : Int32) &&& 31).toUInt32).toInt32) &&& (1 : Int32))), (.int v15), (.int v19), (.int (((p3.toUInt32 >>> ((2 : Int32) &&& 31).toUInt32).toInt32) &&& (1 : Int32))), (.int v25), (.int v29), (.int (((p3.toUInt32 >>> ((3 : Int32) &&& 31).toUInt32).toInt32) &&& (1 : Int32))), (.int v35), (.int (0 : Int32))] (.int (0 : Int32)) at V_ss
  refine own_step (B := T37.setTop (mkF m 159 #[.val (.int p0), .val (.int p1), .val (.int p2), .val (.int p3), .val (.int p4), .val (.int p5), .val (.ref ss), .unset, .unset, .unset, .unset, .unset, .unset, .unset] [])) (fun t k => st37 t k) ?_
  refine own_step (B := T37.setTop (mkF m 161 #[.val (.int p0), .val (.int p1), .val (.int p2), .val (.int p3), .val (.int p4), .val (.int p5), .val (.ref ss), .unset, .unset, .unset, .unset, .unset, .unset, .unset] [(.ref ss)])) (fun t k => XS.aload X37.here hx rfl (hb hby at_159) rfl rfl k) ?_
  refine own_step (B := T37.setTop (mkF m 163 #[.val (.int p0), .val (.int p1), .val (.int p2), .val (.int p3), .val (.int p4), .val (.int p5), .val (.ref ss), .unset, .unset, .unset, .unset, .unset, .unset, .unset] [(.int (11 : Int32)), (.ref ss)])) (fun t k => XS.bipush X37.here hx rfl (hb hby at_161) k) ?_
  refine own_step (B := T37.setTop (mkF m 165 #[.val (.int p0), .val (.int p1), .val (.int p2), .val (.int p3), .val (.int p4), .val (.int p5), .val (.ref ss), .unset, .unset, .unset, .unset, .unset, .unset, .unset] [(.int p4), (.int (11 : Int32)), (.ref ss)])) (fun t k => XS.iload X37.here hx rfl (hb hby at_163) rfl k) ?_
  refine own_step (B := T37.setTop (mkF m 167 #[.val (.int p0), .val (.int p1), .val (.int p2), .val (.int p3), .val (.int p4), .val (.int p5), .val (.ref ss), .unset, .unset, .unset, .unset, .unset, .unset, .unset] [(.int (14 : Int32)), (.int p4), (.int (11 : Int32)), (.ref ss)])) (fun t k => XS.bipush X37.here hx rfl (hb hby at_165) k) ?_
  refine own_step (B := T37.setTop (mkF m 168 #[.val (.int p0), .val (.int p1), .val (.int p2), .val (.int p3), .val (.int p4), .val (.int p5), .val (.ref ss), .unset, .unset, .unset, .unset, .unset, .unset, .unset] [(.int ((p4.toUInt32 >>> ((14 : Int32) &&& 31).toUInt32).toInt32)), (.int (11 : Int32)), (.ref ss)])) (fun t k => XS.iushr X37.here hx rfl (hb hby at_167) rfl k) ?_
  refine own_step (B := T37.setTop (mkF m 169 #[.val (.int p0), .val (.int p1), .val (.int p2), .val (.int p3), .val (.int p4), .val (.int p5), .val (.ref ss), .unset, .unset, .unset, .unset, .unset, .unset, .unset] [(.int (3 : Int32)), (.int ((p4.toUInt32 >>> ((14 : Int32) &&& 31).toUInt32).toInt32)), (.int (11 : Int32)), (.ref ss)])) (fun t k => XS.iconst X37.here hx rfl (hb hby at_168) k) ?_
  refine own_step (B := T37.setTop (mkF m 170 #[.val (.int p0), .val (.int p1), .val (.int p2), .val (.int p3), .val (.int p4), .val (.int p5), .val (.ref ss), .unset, .unset, .unset, .unset, .unset, .unset, .unset] [(.int (((p4.toUInt32 >>> ((14 : Int32) &&& 31).toUInt32).toInt32) &&& (3 : Int32))), (.int (11 : Int32)), (.ref ss)])) (fun t k => XS.iand X37.here hx rfl (hb hby at_169) rfl k) ?_
  refine own_step (B := T37.setTop (mkF m 171 #[.val (.int p0), .val (.int p1), .val (.int p2), .val (.int p3), .val (.int p4), .val (.int p5), .val (.ref ss), .unset, .unset, .unset, .unset, .unset, .unset, .unset] [(.int p0), (.int (((p4.toUInt32 >>> ((14 : Int32) &&& 31).toUInt32).toInt32) &&& (3 : Int32))), (.int (11 : Int32)), (.ref ss)])) (fun t k => XS.iloadN X37.here hx rfl (hb hby at_170) rfl k) ?_
  refine own_step (B := T37.setTop (mkF m 172 #[.val (.int p0), .val (.int p1), .val (.int p2), .val (.int p3), .val (.int p4), .val (.int p5), .val (.ref ss), .unset, .unset, .unset, .unset, .unset, .unset, .unset] [(.int p1), (.int p0), (.int (((p4.toUInt32 >>> ((14 : Int32) &&& 31).toUInt32).toInt32) &&& (3 : Int32))), (.int (11 : Int32)), (.ref ss)])) (fun t k => XS.iloadN X37.here hx rfl (hb hby at_171) rfl k) ?_
  refine own_step (B := T37.setTop (mkF m 173 #[.val (.int p0), .val (.int p1), .val (.int p2), .val (.int p3), .val (.int p4), .val (.int p5), .val (.ref ss), .unset, .unset, .unset, .unset, .unset, .unset, .unset] [(.int p2), (.int p1), (.int p0), (.int (((p4.toUInt32 >>> ((14 : Int32) &&& 31).toUInt32).toInt32) &&& (3 : Int32))), (.int (11 : Int32)), (.ref ss)])) (fun t k => XS.iloadN X37.here hx rfl (hb hby at_172) rfl k) ?_
  obtain ⟨_, _, ⟨T38, L38, k38, n38⟩, -, X38, ⟨Lc38, hQ38, l38, y38, z38⟩, st38⟩ := Jvm.LawKit.callS X37 hx (y := (⟨"com/example/tightrope/tightrope/history/TransactionReadsFromOutsidePinLaw", "pick", "(IIII)I"⟩ : MethodName)) hown (mvT hZ (hw _ (List.mem_of_getElem? (i := 1) rfl))) (mvT hZ (hw _ (List.mem_of_getElem? (i := 2) rfl))) (mvT hZ (hw _ (List.mem_of_getElem? (i := 3) rfl))) (mvT hZ (hw _ (List.mem_of_getElem? (i := 4) rfl))) (by decide) (backOf (W := 2) (rm1 l Z a0 hw [] (((p4.toUInt32 >>> ((14 : Int32) &&& 31).toUInt32).toInt32) &&& (3 : Int32)) p0 p1 p2  h37 n0 Z0 ) hZ (hw _ (List.mem_of_getElem? (i := 4) rfl)) (hw _ (List.mem_of_getElem? (i := 3) rfl)) (by decide) (by decide)) (g := (mkF m 173 #[.val (.int p0), .val (.int p1), .val (.int p2), .val (.int p3), .val (.int p4), .val (.int p5), .val (.ref ss), .unset, .unset, .unset, .unset, .unset, .unset, .unset] [(.int p2), (.int p1), (.int p0), (.int (((p4.toUInt32 >>> ((14 : Int32) &&& 31).toUInt32).toInt32) &&& (3 : Int32))), (.int (11 : Int32)), (.ref ss)])) rfl (by rw [hml]; rfl) (argsL := [(.int (((p4.toUInt32 >>> ((14 : Int32) &&& 31).toUInt32).toInt32) &&& (3 : Int32))), (.int p0), (.int p1), (.int p2)]) (rest := [(.int (11 : Int32)), (.ref ss)]) (lenOf pd_1 rfl) rfl (by show 2 * 0 + _ ≤ _; exact Nat.le_of_eq rfl) (hb hby at_173) (fun _ _ => ⟨rfl, e37, (by decide : 1 + 0 ≤ _), (by decide : 12 + 0 ≤ _)⟩)
  dsimp only [Pt.U, Pt.locs, Pt.cells, Pt.slots] at X38 l38 y38 z38 st38 hQ38
  subst l38 y38 z38
  obtain ⟨v39, rfl, N38q, e_p39⟩ := hQ38
  have N0 := Fr.app N0 N38q
  refine own_step (B := T38.setTop (mkF m 176 #[.val (.int p0), .val (.int p1), .val (.int p2), .val (.int p3), .val (.int p4), .val (.int p5), .val (.ref ss), .unset, .unset, .unset, .unset, .unset, .unset, .unset] [(.int v39), (.int (11 : Int32)), (.ref ss)])) (fun t k => st38 t k) ?_
  have Vo_40 := V_ss
  obtain ⟨cl_40, Ar_40, q_40, S_40, M_40, H_40, G_40⟩ := Vo_40
  have hin41 : ¬ ((11 : Int32) < 0 ∨ cl_40.slots.size ≤ ((11 : Int32)).toNatClampNeg) := inb_of S_40 ⟨by decide, by decide⟩
  obtain ⟨T41, h41, X41, e41, W41, st41⟩ := stI X38 hx hZ e_p39 Ar_40 (j := (11 : Int32)) hin41 (g := (mkF m 176 #[.val (.int p0), .val (.int p1), .val (.int p2), .val (.int p3), .val (.int p4), .val (.int p5), .val (.ref ss), .unset, .unset, .unset, .unset, .unset, .unset, .unset] [(.int v39), (.int (11 : Int32)), (.ref ss)])) rfl rfl (hb hby at_176)
  have Z0 := Nat.le_trans Z0 (Keep.of_wr W41).1
  have N0 := Fr.snoc X41 N0 g_ss
  have V_ss := Arv.set Ar_40 q_40 S_40 M_40 H_40 G_40 rfl W41 11 rfl (Nat.le_of_ble_eq_true rfl)
  change Arv Z h41 ss k1 .int (12 : Int32) [(.int (p3 &&& (1 : Int32))), (.int v5), (.int v9), (.int (((p3.toUInt32 >>> ((1 : Int32) &&& 31).toUInt32).toInt32) &&& (1 : Int32))), (.int v15), (.int v19), (.int (((p3.toUInt32 >>> ((2 : Int32) &&& 31).toUInt32).toInt32) &&& (1 : Int32))), (.int v25), (.int v29), (.int (((p3.toUInt32 >>> ((3 : Int32) &&& 31).toUInt32).toInt32) &&& (1 : Int32))), (.int v35), (.int v39)] (.int (0 : Int32)) at V_ss
  refine own_step (B := T41.setTop (mkF m 177 #[.val (.int p0), .val (.int p1), .val (.int p2), .val (.int p3), .val (.int p4), .val (.int p5), .val (.ref ss), .unset, .unset, .unset, .unset, .unset, .unset, .unset] [])) (fun t k => st41 t k) ?_
  refine own_step (B := T41.setTop (mkF m 179 #[.val (.int p0), .val (.int p1), .val (.int p2), .val (.int p3), .val (.int p4), .val (.int p5), .val (.ref ss), .unset, .unset, .unset, .unset, .unset, .unset, .unset] [(.int p5)])) (fun t k => XS.iload X41.here hx rfl (hb hby at_177) rfl k) ?_
  refine own_step (B := T41.setTop (mkF m 180 #[.val (.int p0), .val (.int p1), .val (.int p2), .val (.int p3), .val (.int p4), .val (.int p5), .val (.ref ss), .unset, .unset, .unset, .unset, .unset, .unset, .unset] [(.int (3 : Int32)), (.int p5)])) (fun t k => XS.iconst X41.here hx rfl (hb hby at_179) k) ?_
  refine own_step (B := T41.setTop (mkF m 181 #[.val (.int p0), .val (.int p1), .val (.int p2), .val (.int p3), .val (.int p4), .val (.int p5), .val (.ref ss), .unset, .unset, .unset, .unset, .unset, .unset, .unset] [(.int (p5 &&& (3 : Int32)))])) (fun t k => XS.iand X41.here hx rfl (hb hby at_180) rfl k) ?_
  obtain ⟨rr, e_rr⟩ : ∃ z, z = (p5 &&& (3 : Int32)) := ⟨_, rfl⟩
  rw [← e_rr]
  refine own_step (B := T41.setTop (mkF m 183 #[.val (.int p0), .val (.int p1), .val (.int p2), .val (.int p3), .val (.int p4), .val (.int p5), .val (.ref ss), .val (.int rr), .unset, .unset, .unset, .unset, .unset, .unset] [])) (fun t k => XS.istore X41.here hx rfl (hb hby at_181) rfl (l' := #[.val (.int p0), .val (.int p1), .val (.int p2), .val (.int p3), .val (.int p4), .val (.int p5), .val (.ref ss), .val (.int rr), .unset, .unset, .unset, .unset, .unset, .unset]) rfl k) ?_
  have hr4 : rr = 0 ∨ rr = 1 ∨ rr = 2 ∨ rr = 3 := by rw [e_rr]; exact own_and3 p5
  clear e_rr
  rcases hr4 with rfl | rfl | rfl | rfl
  · skip
    refine own_step (B := T41.setTop (mkF m 185 #[.val (.int p0), .val (.int p1), .val (.int p2), .val (.int p3), .val (.int p4), .val (.int p5), .val (.ref ss), .val (.int (0 : Int32)), .unset, .unset, .unset, .unset, .unset, .unset] [(.ref ss)])) (fun t k => XS.aload X41.here hx rfl (hb hby at_183) rfl rfl k) ?_
    refine own_step (B := T41.setTop (mkF m 186 #[.val (.int p0), .val (.int p1), .val (.int p2), .val (.int p3), .val (.int p4), .val (.int p5), .val (.ref ss), .val (.int (0 : Int32)), .unset, .unset, .unset, .unset, .unset, .unset] [(.int (3 : Int32)), (.ref ss)])) (fun t k => XS.iconst X41.here hx rfl (hb hby at_185) k) ?_
    refine own_step (B := T41.setTop (mkF m 188 #[.val (.int p0), .val (.int p1), .val (.int p2), .val (.int p3), .val (.int p4), .val (.int p5), .val (.ref ss), .val (.int (0 : Int32)), .unset, .unset, .unset, .unset, .unset, .unset] [(.int (0 : Int32)), (.int (3 : Int32)), (.ref ss)])) (fun t k => XS.iload X41.here hx rfl (hb hby at_186) rfl k) ?_
    refine own_step (B := T41.setTop (mkF m 189 #[.val (.int p0), .val (.int p1), .val (.int p2), .val (.int p3), .val (.int p4), .val (.int p5), .val (.ref ss), .val (.int (0 : Int32)), .unset, .unset, .unset, .unset, .unset, .unset] [(.int (0 : Int32)), (.ref ss)])) (fun t k => XS.imul X41.here hx rfl (hb hby at_188) rfl k) ?_
    refine own_step (B := T41.setTop (mkF m 190 #[.val (.int p0), .val (.int p1), .val (.int p2), .val (.int p3), .val (.int p4), .val (.int p5), .val (.ref ss), .val (.int (0 : Int32)), .unset, .unset, .unset, .unset, .unset, .unset] [(.int (1 : Int32)), (.int (0 : Int32)), (.ref ss)])) (fun t k => XS.iconst X41.here hx rfl (hb hby at_189) k) ?_
    refine own_step (B := T41.setTop (mkF m 191 #[.val (.int p0), .val (.int p1), .val (.int p2), .val (.int p3), .val (.int p4), .val (.int p5), .val (.ref ss), .val (.int (0 : Int32)), .unset, .unset, .unset, .unset, .unset, .unset] [(.int (1 : Int32)), (.ref ss)])) (fun t k => XS.iadd X41.here hx rfl (hb hby at_190) rfl k) ?_
    have Vo_42 := V_ss
    obtain ⟨cl_42, Ar_42, q_42, S_42, M_42, H_42, G_42⟩ := Vo_42
    refine own_step (B := T41.setTop (mkF m 192 #[.val (.int p0), .val (.int p1), .val (.int p2), .val (.int p3), .val (.int p4), .val (.int p5), .val (.ref ss), .val (.int (0 : Int32)), .unset, .unset, .unset, .unset, .unset, .unset] [(.int v5)])) (fun t k => X41.iaload hx (j := (1 : Int32)) (v := (.int v5)) (by rw [e41]; exact Ar_42.1) (State.isArrayOf_alike hZ.alike Ar_42.2.1) Ar_42.2.2 (inb_of S_42 ⟨by decide, by decide⟩) (Has.at H_42 (inb_of S_42 ⟨by decide, by decide⟩) rfl) (g := (mkF m 191 #[.val (.int p0), .val (.int p1), .val (.int p2), .val (.int p3), .val (.int p4), .val (.int p5), .val (.ref ss), .val (.int (0 : Int32)), .unset, .unset, .unset, .unset, .unset, .unset] [(.int (1 : Int32)), (.ref ss)])) rfl rfl (hb hby at_191) t k) ?_
    refine own_step (B := T41.setTop (mkF m 194 #[.val (.int p0), .val (.int p1), .val (.int p2), .val (.int p3), .val (.int p4), .val (.int p5), .val (.ref ss), .val (.int (0 : Int32)), .val (.int v5), .unset, .unset, .unset, .unset, .unset] [])) (fun t k => XS.istore X41.here hx rfl (hb hby at_192) rfl (l' := #[.val (.int p0), .val (.int p1), .val (.int p2), .val (.int p3), .val (.int p4), .val (.int p5), .val (.ref ss), .val (.int (0 : Int32)), .val (.int v5), .unset, .unset, .unset, .unset, .unset]) rfl k) ?_
    refine own_step (B := T41.setTop (mkF m 196 #[.val (.int p0), .val (.int p1), .val (.int p2), .val (.int p3), .val (.int p4), .val (.int p5), .val (.ref ss), .val (.int (0 : Int32)), .val (.int v5), .unset, .unset, .unset, .unset, .unset] [(.ref ss)])) (fun t k => XS.aload X41.here hx rfl (hb hby at_194) rfl rfl k) ?_
    refine own_step (B := T41.setTop (mkF m 197 #[.val (.int p0), .val (.int p1), .val (.int p2), .val (.int p3), .val (.int p4), .val (.int p5), .val (.ref ss), .val (.int (0 : Int32)), .val (.int v5), .unset, .unset, .unset, .unset, .unset] [(.int (0 : Int32)), (.ref ss)])) (fun t k => XS.iconst X41.here hx rfl (hb hby at_196) k) ?_
    have Vo_43 := V_ss
    obtain ⟨cl_43, Ar_43, q_43, S_43, M_43, H_43, G_43⟩ := Vo_43
    refine own_step (B := T41.setTop (mkF m 198 #[.val (.int p0), .val (.int p1), .val (.int p2), .val (.int p3), .val (.int p4), .val (.int p5), .val (.ref ss), .val (.int (0 : Int32)), .val (.int v5), .unset, .unset, .unset, .unset, .unset] [(.int (p3 &&& (1 : Int32)))])) (fun t k => X41.iaload hx (j := (0 : Int32)) (v := (.int (p3 &&& (1 : Int32)))) (by rw [e41]; exact Ar_43.1) (State.isArrayOf_alike hZ.alike Ar_43.2.1) Ar_43.2.2 (inb_of S_43 ⟨by decide, by decide⟩) (Has.at H_43 (inb_of S_43 ⟨by decide, by decide⟩) rfl) (g := (mkF m 197 #[.val (.int p0), .val (.int p1), .val (.int p2), .val (.int p3), .val (.int p4), .val (.int p5), .val (.ref ss), .val (.int (0 : Int32)), .val (.int v5), .unset, .unset, .unset, .unset, .unset] [(.int (0 : Int32)), (.ref ss)])) rfl rfl (hb hby at_197) t k) ?_
    refine own_step (B := T41.setTop (mkF m 199 #[.val (.int p0), .val (.int p1), .val (.int p2), .val (.int p3), .val (.int p4), .val (.int p5), .val (.ref ss), .val (.int (0 : Int32)), .val (.int v5), .unset, .unset, .unset, .unset, .unset] [(.int (1 : Int32)), (.int (p3 &&& (1 : Int32)))])) (fun t k => XS.iconst X41.here hx rfl (hb hby at_198) k) ?_
    have J44 : (∀ (T' : State) (ls' : List Loc), Stand p l e room_1 s m #[(.int p0), (.int p1), (.int p2), (.int p3), (.int p4), (.int p5)] below meth c T' ls' 1 12 → T'.heap = h41 → Fr n0 ls' → own_G p.tables e below s (QQ_rm0 Z p0 p1 p2 p3 p4 p5 h0 n0) room_1.cells room_1.slots (T'.setTop (mkF m 216 #[.val (.int p0), .val (.int p1), .val (.int p2), .val (.int p3), .val (.int p4), .val (.int p5), .val (.ref ss), .val (.int (0 : Int32)), .val (.int v5), .unset, .unset, .unset, .unset, .unset] [(.int (if (p3 &&& (1 : Int32)) = (1 : Int32) then (1 : Int32) else (0 : Int32)))]))) → own_G p.tables e below s (QQ_rm0 Z p0 p1 p2 p3 p4 p5 h0 n0) room_1.cells room_1.slots (T41.setTop (mkF m 199 #[.val (.int p0), .val (.int p1), .val (.int p2), .val (.int p3), .val (.int p4), .val (.int p5), .val (.ref ss), .val (.int (0 : Int32)), .val (.int v5), .unset, .unset, .unset, .unset, .unset] [(.int (1 : Int32)), (.int (p3 &&& (1 : Int32)))])) := by
      intro hJ
      by_cases hc199 : (p3 &&& (1 : Int32)) = (1 : Int32)
      · skip
        refine own_step (B := T41.setTop (mkF m 202 #[.val (.int p0), .val (.int p1), .val (.int p2), .val (.int p3), .val (.int p4), .val (.int p5), .val (.ref ss), .val (.int (0 : Int32)), .val (.int v5), .unset, .unset, .unset, .unset, .unset] [])) (fun t k => XS.icmpNo X41.here hx rfl (hb hby at_199) rfl (teq hc199).2 k) ?_
        refine own_step (B := T41.setTop (mkF m 204 #[.val (.int p0), .val (.int p1), .val (.int p2), .val (.int p3), .val (.int p4), .val (.int p5), .val (.ref ss), .val (.int (0 : Int32)), .val (.int v5), .unset, .unset, .unset, .unset, .unset] [(.ref ss)])) (fun t k => XS.aload X41.here hx rfl (hb hby at_202) rfl rfl k) ?_
        refine own_step (B := T41.setTop (mkF m 205 #[.val (.int p0), .val (.int p1), .val (.int p2), .val (.int p3), .val (.int p4), .val (.int p5), .val (.ref ss), .val (.int (0 : Int32)), .val (.int v5), .unset, .unset, .unset, .unset, .unset] [(.int (1 : Int32)), (.ref ss)])) (fun t k => XS.iconst X41.here hx rfl (hb hby at_204) k) ?_
        have Vo_45 := V_ss
        obtain ⟨cl_45, Ar_45, q_45, S_45, M_45, H_45, G_45⟩ := Vo_45
        refine own_step (B := T41.setTop (mkF m 206 #[.val (.int p0), .val (.int p1), .val (.int p2), .val (.int p3), .val (.int p4), .val (.int p5), .val (.ref ss), .val (.int (0 : Int32)), .val (.int v5), .unset, .unset, .unset, .unset, .unset] [(.int v5)])) (fun t k => X41.iaload hx (j := (1 : Int32)) (v := (.int v5)) (by rw [e41]; exact Ar_45.1) (State.isArrayOf_alike hZ.alike Ar_45.2.1) Ar_45.2.2 (inb_of S_45 ⟨by decide, by decide⟩) (Has.at H_45 (inb_of S_45 ⟨by decide, by decide⟩) rfl) (g := (mkF m 205 #[.val (.int p0), .val (.int p1), .val (.int p2), .val (.int p3), .val (.int p4), .val (.int p5), .val (.ref ss), .val (.int (0 : Int32)), .val (.int v5), .unset, .unset, .unset, .unset, .unset] [(.int (1 : Int32)), (.ref ss)])) rfl rfl (hb hby at_205) t k) ?_
        refine own_step (B := T41.setTop (mkF m 208 #[.val (.int p0), .val (.int p1), .val (.int p2), .val (.int p3), .val (.int p4), .val (.int p5), .val (.ref ss), .val (.int (0 : Int32)), .val (.int v5), .unset, .unset, .unset, .unset, .unset] [(.int v5), (.int v5)])) (fun t k => XS.iload X41.here hx rfl (hb hby at_206) rfl k) ?_
        refine own_step (B := T41.setTop (mkF m 211 #[.val (.int p0), .val (.int p1), .val (.int p2), .val (.int p3), .val (.int p4), .val (.int p5), .val (.ref ss), .val (.int (0 : Int32)), .val (.int v5), .unset, .unset, .unset, .unset, .unset] [])) (fun t k => XS.icmpNo X41.here hx rfl (hb hby at_208) rfl (teq rfl).2 k) ?_
        refine own_step (B := T41.setTop (mkF m 212 #[.val (.int p0), .val (.int p1), .val (.int p2), .val (.int p3), .val (.int p4), .val (.int p5), .val (.ref ss), .val (.int (0 : Int32)), .val (.int v5), .unset, .unset, .unset, .unset, .unset] [(.int (1 : Int32))])) (fun t k => XS.iconst X41.here hx rfl (hb hby at_211) k) ?_
        refine own_step (B := T41.setTop (mkF m 216 #[.val (.int p0), .val (.int p1), .val (.int p2), .val (.int p3), .val (.int p4), .val (.int p5), .val (.ref ss), .val (.int (0 : Int32)), .val (.int v5), .unset, .unset, .unset, .unset, .unset] [(.int (1 : Int32))])) (fun t k => XS.goto X41.here hx rfl (pc0 := 212) (pc' := 216) rfl (hb hby at_212) (by decide) (by decide) k) ?_
        try simp only [if_pos hc199] at hJ
        exact hJ _ _ X41 e41 N0
      · skip
        refine own_step (B := T41.setTop (mkF m 215 #[.val (.int p0), .val (.int p1), .val (.int p2), .val (.int p3), .val (.int p4), .val (.int p5), .val (.ref ss), .val (.int (0 : Int32)), .val (.int v5), .unset, .unset, .unset, .unset, .unset] [])) (fun t k => XS.icmpYes X41.here hx rfl (pc0 := 199) (pc' := 215) rfl (hb hby at_199) rfl (feq hc199).2 (by decide) (by decide) k) ?_
        refine own_step (B := T41.setTop (mkF m 216 #[.val (.int p0), .val (.int p1), .val (.int p2), .val (.int p3), .val (.int p4), .val (.int p5), .val (.ref ss), .val (.int (0 : Int32)), .val (.int v5), .unset, .unset, .unset, .unset, .unset] [(.int (0 : Int32))])) (fun t k => XS.iconst X41.here hx rfl (hb hby at_215) k) ?_
        try simp only [if_neg hc199] at hJ
        exact hJ _ _ X41 e41 N0
    refine J44 ?_
    clear J44
    intro T46 ls46 X46 e46 N0
    obtain ⟨c0, e_c0⟩ : ∃ z, z = (if (p3 &&& (1 : Int32)) = (1 : Int32) then (1 : Int32) else (0 : Int32)) := ⟨_, rfl⟩
    rw [← e_c0]
    refine own_step (B := T46.setTop (mkF m 218 #[.val (.int p0), .val (.int p1), .val (.int p2), .val (.int p3), .val (.int p4), .val (.int p5), .val (.ref ss), .val (.int (0 : Int32)), .val (.int v5), .val (.int c0), .unset, .unset, .unset, .unset] [])) (fun t k => XS.istore X46.here hx rfl (hb hby at_216) rfl (l' := #[.val (.int p0), .val (.int p1), .val (.int p2), .val (.int p3), .val (.int p4), .val (.int p5), .val (.ref ss), .val (.int (0 : Int32)), .val (.int v5), .val (.int c0), .unset, .unset, .unset, .unset]) rfl k) ?_
    refine own_step (B := T46.setTop (mkF m 220 #[.val (.int p0), .val (.int p1), .val (.int p2), .val (.int p3), .val (.int p4), .val (.int p5), .val (.ref ss), .val (.int (0 : Int32)), .val (.int v5), .val (.int c0), .unset, .unset, .unset, .unset] [(.ref ss)])) (fun t k => XS.aload X46.here hx rfl (hb hby at_218) rfl rfl k) ?_
    refine own_step (B := T46.setTop (mkF m 221 #[.val (.int p0), .val (.int p1), .val (.int p2), .val (.int p3), .val (.int p4), .val (.int p5), .val (.ref ss), .val (.int (0 : Int32)), .val (.int v5), .val (.int c0), .unset, .unset, .unset, .unset] [(.int (3 : Int32)), (.ref ss)])) (fun t k => XS.iconst X46.here hx rfl (hb hby at_220) k) ?_
    have Vo_47 := V_ss
    obtain ⟨cl_47, Ar_47, q_47, S_47, M_47, H_47, G_47⟩ := Vo_47
    refine own_step (B := T46.setTop (mkF m 222 #[.val (.int p0), .val (.int p1), .val (.int p2), .val (.int p3), .val (.int p4), .val (.int p5), .val (.ref ss), .val (.int (0 : Int32)), .val (.int v5), .val (.int c0), .unset, .unset, .unset, .unset] [(.int (((p3.toUInt32 >>> ((1 : Int32) &&& 31).toUInt32).toInt32) &&& (1 : Int32)))])) (fun t k => X46.iaload hx (j := (3 : Int32)) (v := (.int (((p3.toUInt32 >>> ((1 : Int32) &&& 31).toUInt32).toInt32) &&& (1 : Int32)))) (by rw [e46]; exact Ar_47.1) (State.isArrayOf_alike hZ.alike Ar_47.2.1) Ar_47.2.2 (inb_of S_47 ⟨by decide, by decide⟩) (Has.at H_47 (inb_of S_47 ⟨by decide, by decide⟩) rfl) (g := (mkF m 221 #[.val (.int p0), .val (.int p1), .val (.int p2), .val (.int p3), .val (.int p4), .val (.int p5), .val (.ref ss), .val (.int (0 : Int32)), .val (.int v5), .val (.int c0), .unset, .unset, .unset, .unset] [(.int (3 : Int32)), (.ref ss)])) rfl rfl (hb hby at_221) t k) ?_
    refine own_step (B := T46.setTop (mkF m 223 #[.val (.int p0), .val (.int p1), .val (.int p2), .val (.int p3), .val (.int p4), .val (.int p5), .val (.ref ss), .val (.int (0 : Int32)), .val (.int v5), .val (.int c0), .unset, .unset, .unset, .unset] [(.int (1 : Int32)), (.int (((p3.toUInt32 >>> ((1 : Int32) &&& 31).toUInt32).toInt32) &&& (1 : Int32)))])) (fun t k => XS.iconst X46.here hx rfl (hb hby at_222) k) ?_
    have J48 : (∀ (T' : State) (ls' : List Loc), Stand p l e room_1 s m #[(.int p0), (.int p1), (.int p2), (.int p3), (.int p4), (.int p5)] below meth c T' ls' 1 12 → T'.heap = h41 → Fr n0 ls' → own_G p.tables e below s (QQ_rm0 Z p0 p1 p2 p3 p4 p5 h0 n0) room_1.cells room_1.slots (T'.setTop (mkF m 240 #[.val (.int p0), .val (.int p1), .val (.int p2), .val (.int p3), .val (.int p4), .val (.int p5), .val (.ref ss), .val (.int (0 : Int32)), .val (.int v5), .val (.int c0), .unset, .unset, .unset, .unset] [(.int (if (((p3.toUInt32 >>> ((1 : Int32) &&& 31).toUInt32).toInt32) &&& (1 : Int32)) = (1 : Int32) then (if v15 = v5 then (1 : Int32) else (0 : Int32)) else (0 : Int32)))]))) → own_G p.tables e below s (QQ_rm0 Z p0 p1 p2 p3 p4 p5 h0 n0) room_1.cells room_1.slots (T46.setTop (mkF m 223 #[.val (.int p0), .val (.int p1), .val (.int p2), .val (.int p3), .val (.int p4), .val (.int p5), .val (.ref ss), .val (.int (0 : Int32)), .val (.int v5), .val (.int c0), .unset, .unset, .unset, .unset] [(.int (1 : Int32)), (.int (((p3.toUInt32 >>> ((1 : Int32) &&& 31).toUInt32).toInt32) &&& (1 : Int32)))])) := by
      intro hJ
      by_cases hc223 : (((p3.toUInt32 >>> ((1 : Int32) &&& 31).toUInt32).toInt32) &&& (1 : Int32)) = (1 : Int32)
      · skip
        refine own_step (B := T46.setTop (mkF m 226 #[.val (.int p0), .val (.int p1), .val (.int p2), .val (.int p3), .val (.int p4), .val (.int p5), .val (.ref ss), .val (.int (0 : Int32)), .val (.int v5), .val (.int c0), .unset, .unset, .unset, .unset] [])) (fun t k => XS.icmpNo X46.here hx rfl (hb hby at_223) rfl (teq hc223).2 k) ?_
        refine own_step (B := T46.setTop (mkF m 228 #[.val (.int p0), .val (.int p1), .val (.int p2), .val (.int p3), .val (.int p4), .val (.int p5), .val (.ref ss), .val (.int (0 : Int32)), .val (.int v5), .val (.int c0), .unset, .unset, .unset, .unset] [(.ref ss)])) (fun t k => XS.aload X46.here hx rfl (hb hby at_226) rfl rfl k) ?_
        refine own_step (B := T46.setTop (mkF m 229 #[.val (.int p0), .val (.int p1), .val (.int p2), .val (.int p3), .val (.int p4), .val (.int p5), .val (.ref ss), .val (.int (0 : Int32)), .val (.int v5), .val (.int c0), .unset, .unset, .unset, .unset] [(.int (4 : Int32)), (.ref ss)])) (fun t k => XS.iconst X46.here hx rfl (hb hby at_228) k) ?_
        have Vo_49 := V_ss
        obtain ⟨cl_49, Ar_49, q_49, S_49, M_49, H_49, G_49⟩ := Vo_49
        refine own_step (B := T46.setTop (mkF m 230 #[.val (.int p0), .val (.int p1), .val (.int p2), .val (.int p3), .val (.int p4), .val (.int p5), .val (.ref ss), .val (.int (0 : Int32)), .val (.int v5), .val (.int c0), .unset, .unset, .unset, .unset] [(.int v15)])) (fun t k => X46.iaload hx (j := (4 : Int32)) (v := (.int v15)) (by rw [e46]; exact Ar_49.1) (State.isArrayOf_alike hZ.alike Ar_49.2.1) Ar_49.2.2 (inb_of S_49 ⟨by decide, by decide⟩) (Has.at H_49 (inb_of S_49 ⟨by decide, by decide⟩) rfl) (g := (mkF m 229 #[.val (.int p0), .val (.int p1), .val (.int p2), .val (.int p3), .val (.int p4), .val (.int p5), .val (.ref ss), .val (.int (0 : Int32)), .val (.int v5), .val (.int c0), .unset, .unset, .unset, .unset] [(.int (4 : Int32)), (.ref ss)])) rfl rfl (hb hby at_229) t k) ?_
        refine own_step (B := T46.setTop (mkF m 232 #[.val (.int p0), .val (.int p1), .val (.int p2), .val (.int p3), .val (.int p4), .val (.int p5), .val (.ref ss), .val (.int (0 : Int32)), .val (.int v5), .val (.int c0), .unset, .unset, .unset, .unset] [(.int v5), (.int v15)])) (fun t k => XS.iload X46.here hx rfl (hb hby at_230) rfl k) ?_
        by_cases hc232 : v15 = v5
        · skip
          refine own_step (B := T46.setTop (mkF m 235 #[.val (.int p0), .val (.int p1), .val (.int p2), .val (.int p3), .val (.int p4), .val (.int p5), .val (.ref ss), .val (.int (0 : Int32)), .val (.int v5), .val (.int c0), .unset, .unset, .unset, .unset] [])) (fun t k => XS.icmpNo X46.here hx rfl (hb hby at_232) rfl (teq hc232).2 k) ?_
          refine own_step (B := T46.setTop (mkF m 236 #[.val (.int p0), .val (.int p1), .val (.int p2), .val (.int p3), .val (.int p4), .val (.int p5), .val (.ref ss), .val (.int (0 : Int32)), .val (.int v5), .val (.int c0), .unset, .unset, .unset, .unset] [(.int (1 : Int32))])) (fun t k => XS.iconst X46.here hx rfl (hb hby at_235) k) ?_
          refine own_step (B := T46.setTop (mkF m 240 #[.val (.int p0), .val (.int p1), .val (.int p2), .val (.int p3), .val (.int p4), .val (.int p5), .val (.ref ss), .val (.int (0 : Int32)), .val (.int v5), .val (.int c0), .unset, .unset, .unset, .unset] [(.int (1 : Int32))])) (fun t k => XS.goto X46.here hx rfl (pc0 := 236) (pc' := 240) rfl (hb hby at_236) (by decide) (by decide) k) ?_
          try simp only [if_pos hc223, if_pos hc232] at hJ
          exact hJ _ _ X46 e46 N0
        · skip
          refine own_step (B := T46.setTop (mkF m 239 #[.val (.int p0), .val (.int p1), .val (.int p2), .val (.int p3), .val (.int p4), .val (.int p5), .val (.ref ss), .val (.int (0 : Int32)), .val (.int v5), .val (.int c0), .unset, .unset, .unset, .unset] [])) (fun t k => XS.icmpYes X46.here hx rfl (pc0 := 232) (pc' := 239) rfl (hb hby at_232) rfl (feq hc232).2 (by decide) (by decide) k) ?_
          refine own_step (B := T46.setTop (mkF m 240 #[.val (.int p0), .val (.int p1), .val (.int p2), .val (.int p3), .val (.int p4), .val (.int p5), .val (.ref ss), .val (.int (0 : Int32)), .val (.int v5), .val (.int c0), .unset, .unset, .unset, .unset] [(.int (0 : Int32))])) (fun t k => XS.iconst X46.here hx rfl (hb hby at_239) k) ?_
          try simp only [if_pos hc223, if_neg hc232] at hJ
          exact hJ _ _ X46 e46 N0
      · skip
        refine own_step (B := T46.setTop (mkF m 239 #[.val (.int p0), .val (.int p1), .val (.int p2), .val (.int p3), .val (.int p4), .val (.int p5), .val (.ref ss), .val (.int (0 : Int32)), .val (.int v5), .val (.int c0), .unset, .unset, .unset, .unset] [])) (fun t k => XS.icmpYes X46.here hx rfl (pc0 := 223) (pc' := 239) rfl (hb hby at_223) rfl (feq hc223).2 (by decide) (by decide) k) ?_
        refine own_step (B := T46.setTop (mkF m 240 #[.val (.int p0), .val (.int p1), .val (.int p2), .val (.int p3), .val (.int p4), .val (.int p5), .val (.ref ss), .val (.int (0 : Int32)), .val (.int v5), .val (.int c0), .unset, .unset, .unset, .unset] [(.int (0 : Int32))])) (fun t k => XS.iconst X46.here hx rfl (hb hby at_239) k) ?_
        try simp only [if_neg hc223] at hJ
        exact hJ _ _ X46 e46 N0
    refine J48 ?_
    clear J48
    intro T50 ls50 X50 e50 N0
    obtain ⟨c1, e_c1⟩ : ∃ z, z = (if (((p3.toUInt32 >>> ((1 : Int32) &&& 31).toUInt32).toInt32) &&& (1 : Int32)) = (1 : Int32) then (if v15 = v5 then (1 : Int32) else (0 : Int32)) else (0 : Int32)) := ⟨_, rfl⟩
    rw [← e_c1]
    refine own_step (B := T50.setTop (mkF m 242 #[.val (.int p0), .val (.int p1), .val (.int p2), .val (.int p3), .val (.int p4), .val (.int p5), .val (.ref ss), .val (.int (0 : Int32)), .val (.int v5), .val (.int c0), .val (.int c1), .unset, .unset, .unset] [])) (fun t k => XS.istore X50.here hx rfl (hb hby at_240) rfl (l' := #[.val (.int p0), .val (.int p1), .val (.int p2), .val (.int p3), .val (.int p4), .val (.int p5), .val (.ref ss), .val (.int (0 : Int32)), .val (.int v5), .val (.int c0), .val (.int c1), .unset, .unset, .unset]) rfl k) ?_
    refine own_step (B := T50.setTop (mkF m 244 #[.val (.int p0), .val (.int p1), .val (.int p2), .val (.int p3), .val (.int p4), .val (.int p5), .val (.ref ss), .val (.int (0 : Int32)), .val (.int v5), .val (.int c0), .val (.int c1), .unset, .unset, .unset] [(.ref ss)])) (fun t k => XS.aload X50.here hx rfl (hb hby at_242) rfl rfl k) ?_
    refine own_step (B := T50.setTop (mkF m 246 #[.val (.int p0), .val (.int p1), .val (.int p2), .val (.int p3), .val (.int p4), .val (.int p5), .val (.ref ss), .val (.int (0 : Int32)), .val (.int v5), .val (.int c0), .val (.int c1), .unset, .unset, .unset] [(.int (6 : Int32)), (.ref ss)])) (fun t k => XS.bipush X50.here hx rfl (hb hby at_244) k) ?_
    have Vo_51 := V_ss
    obtain ⟨cl_51, Ar_51, q_51, S_51, M_51, H_51, G_51⟩ := Vo_51
    refine own_step (B := T50.setTop (mkF m 247 #[.val (.int p0), .val (.int p1), .val (.int p2), .val (.int p3), .val (.int p4), .val (.int p5), .val (.ref ss), .val (.int (0 : Int32)), .val (.int v5), .val (.int c0), .val (.int c1), .unset, .unset, .unset] [(.int (((p3.toUInt32 >>> ((2 : Int32) &&& 31).toUInt32).toInt32) &&& (1 : Int32)))])) (fun t k => X50.iaload hx (j := (6 : Int32)) (v := (.int (((p3.toUInt32 >>> ((2 : Int32) &&& 31).toUInt32).toInt32) &&& (1 : Int32)))) (by rw [e50]; exact Ar_51.1) (State.isArrayOf_alike hZ.alike Ar_51.2.1) Ar_51.2.2 (inb_of S_51 ⟨by decide, by decide⟩) (Has.at H_51 (inb_of S_51 ⟨by decide, by decide⟩) rfl) (g := (mkF m 246 #[.val (.int p0), .val (.int p1), .val (.int p2), .val (.int p3), .val (.int p4), .val (.int p5), .val (.ref ss), .val (.int (0 : Int32)), .val (.int v5), .val (.int c0), .val (.int c1), .unset, .unset, .unset] [(.int (6 : Int32)), (.ref ss)])) rfl rfl (hb hby at_246) t k) ?_
    refine own_step (B := T50.setTop (mkF m 248 #[.val (.int p0), .val (.int p1), .val (.int p2), .val (.int p3), .val (.int p4), .val (.int p5), .val (.ref ss), .val (.int (0 : Int32)), .val (.int v5), .val (.int c0), .val (.int c1), .unset, .unset, .unset] [(.int (1 : Int32)), (.int (((p3.toUInt32 >>> ((2 : Int32) &&& 31).toUInt32).toInt32) &&& (1 : Int32)))])) (fun t k => XS.iconst X50.here hx rfl (hb hby at_247) k) ?_
    have J52 : (∀ (T' : State) (ls' : List Loc), Stand p l e room_1 s m #[(.int p0), (.int p1), (.int p2), (.int p3), (.int p4), (.int p5)] below meth c T' ls' 1 12 → T'.heap = h41 → Fr n0 ls' → own_G p.tables e below s (QQ_rm0 Z p0 p1 p2 p3 p4 p5 h0 n0) room_1.cells room_1.slots (T'.setTop (mkF m 266 #[.val (.int p0), .val (.int p1), .val (.int p2), .val (.int p3), .val (.int p4), .val (.int p5), .val (.ref ss), .val (.int (0 : Int32)), .val (.int v5), .val (.int c0), .val (.int c1), .unset, .unset, .unset] [(.int (if (((p3.toUInt32 >>> ((2 : Int32) &&& 31).toUInt32).toInt32) &&& (1 : Int32)) = (1 : Int32) then (if v25 = v5 then (1 : Int32) else (0 : Int32)) else (0 : Int32)))]))) → own_G p.tables e below s (QQ_rm0 Z p0 p1 p2 p3 p4 p5 h0 n0) room_1.cells room_1.slots (T50.setTop (mkF m 248 #[.val (.int p0), .val (.int p1), .val (.int p2), .val (.int p3), .val (.int p4), .val (.int p5), .val (.ref ss), .val (.int (0 : Int32)), .val (.int v5), .val (.int c0), .val (.int c1), .unset, .unset, .unset] [(.int (1 : Int32)), (.int (((p3.toUInt32 >>> ((2 : Int32) &&& 31).toUInt32).toInt32) &&& (1 : Int32)))])) := by
      intro hJ
      by_cases hc248 : (((p3.toUInt32 >>> ((2 : Int32) &&& 31).toUInt32).toInt32) &&& (1 : Int32)) = (1 : Int32)
      · skip
        refine own_step (B := T50.setTop (mkF m 251 #[.val (.int p0), .val (.int p1), .val (.int p2), .val (.int p3), .val (.int p4), .val (.int p5), .val (.ref ss), .val (.int (0 : Int32)), .val (.int v5), .val (.int c0), .val (.int c1), .unset, .unset, .unset] [])) (fun t k => XS.icmpNo X50.here hx rfl (hb hby at_248) rfl (teq hc248).2 k) ?_
        refine own_step (B := T50.setTop (mkF m 253 #[.val (.int p0), .val (.int p1), .val (.int p2), .val (.int p3), .val (.int p4), .val (.int p5), .val (.ref ss), .val (.int (0 : Int32)), .val (.int v5), .val (.int c0), .val (.int c1), .unset, .unset, .unset] [(.ref ss)])) (fun t k => XS.aload X50.here hx rfl (hb hby at_251) rfl rfl k) ?_
        refine own_step (B := T50.setTop (mkF m 255 #[.val (.int p0), .val (.int p1), .val (.int p2), .val (.int p3), .val (.int p4), .val (.int p5), .val (.ref ss), .val (.int (0 : Int32)), .val (.int v5), .val (.int c0), .val (.int c1), .unset, .unset, .unset] [(.int (7 : Int32)), (.ref ss)])) (fun t k => XS.bipush X50.here hx rfl (hb hby at_253) k) ?_
        have Vo_53 := V_ss
        obtain ⟨cl_53, Ar_53, q_53, S_53, M_53, H_53, G_53⟩ := Vo_53
        refine own_step (B := T50.setTop (mkF m 256 #[.val (.int p0), .val (.int p1), .val (.int p2), .val (.int p3), .val (.int p4), .val (.int p5), .val (.ref ss), .val (.int (0 : Int32)), .val (.int v5), .val (.int c0), .val (.int c1), .unset, .unset, .unset] [(.int v25)])) (fun t k => X50.iaload hx (j := (7 : Int32)) (v := (.int v25)) (by rw [e50]; exact Ar_53.1) (State.isArrayOf_alike hZ.alike Ar_53.2.1) Ar_53.2.2 (inb_of S_53 ⟨by decide, by decide⟩) (Has.at H_53 (inb_of S_53 ⟨by decide, by decide⟩) rfl) (g := (mkF m 255 #[.val (.int p0), .val (.int p1), .val (.int p2), .val (.int p3), .val (.int p4), .val (.int p5), .val (.ref ss), .val (.int (0 : Int32)), .val (.int v5), .val (.int c0), .val (.int c1), .unset, .unset, .unset] [(.int (7 : Int32)), (.ref ss)])) rfl rfl (hb hby at_255) t k) ?_
        refine own_step (B := T50.setTop (mkF m 258 #[.val (.int p0), .val (.int p1), .val (.int p2), .val (.int p3), .val (.int p4), .val (.int p5), .val (.ref ss), .val (.int (0 : Int32)), .val (.int v5), .val (.int c0), .val (.int c1), .unset, .unset, .unset] [(.int v5), (.int v25)])) (fun t k => XS.iload X50.here hx rfl (hb hby at_256) rfl k) ?_
        by_cases hc258 : v25 = v5
        · skip
          refine own_step (B := T50.setTop (mkF m 261 #[.val (.int p0), .val (.int p1), .val (.int p2), .val (.int p3), .val (.int p4), .val (.int p5), .val (.ref ss), .val (.int (0 : Int32)), .val (.int v5), .val (.int c0), .val (.int c1), .unset, .unset, .unset] [])) (fun t k => XS.icmpNo X50.here hx rfl (hb hby at_258) rfl (teq hc258).2 k) ?_
          refine own_step (B := T50.setTop (mkF m 262 #[.val (.int p0), .val (.int p1), .val (.int p2), .val (.int p3), .val (.int p4), .val (.int p5), .val (.ref ss), .val (.int (0 : Int32)), .val (.int v5), .val (.int c0), .val (.int c1), .unset, .unset, .unset] [(.int (1 : Int32))])) (fun t k => XS.iconst X50.here hx rfl (hb hby at_261) k) ?_
          refine own_step (B := T50.setTop (mkF m 266 #[.val (.int p0), .val (.int p1), .val (.int p2), .val (.int p3), .val (.int p4), .val (.int p5), .val (.ref ss), .val (.int (0 : Int32)), .val (.int v5), .val (.int c0), .val (.int c1), .unset, .unset, .unset] [(.int (1 : Int32))])) (fun t k => XS.goto X50.here hx rfl (pc0 := 262) (pc' := 266) rfl (hb hby at_262) (by decide) (by decide) k) ?_
          try simp only [if_pos hc248, if_pos hc258] at hJ
          exact hJ _ _ X50 e50 N0
        · skip
          refine own_step (B := T50.setTop (mkF m 265 #[.val (.int p0), .val (.int p1), .val (.int p2), .val (.int p3), .val (.int p4), .val (.int p5), .val (.ref ss), .val (.int (0 : Int32)), .val (.int v5), .val (.int c0), .val (.int c1), .unset, .unset, .unset] [])) (fun t k => XS.icmpYes X50.here hx rfl (pc0 := 258) (pc' := 265) rfl (hb hby at_258) rfl (feq hc258).2 (by decide) (by decide) k) ?_
          refine own_step (B := T50.setTop (mkF m 266 #[.val (.int p0), .val (.int p1), .val (.int p2), .val (.int p3), .val (.int p4), .val (.int p5), .val (.ref ss), .val (.int (0 : Int32)), .val (.int v5), .val (.int c0), .val (.int c1), .unset, .unset, .unset] [(.int (0 : Int32))])) (fun t k => XS.iconst X50.here hx rfl (hb hby at_265) k) ?_
          try simp only [if_pos hc248, if_neg hc258] at hJ
          exact hJ _ _ X50 e50 N0
      · skip
        refine own_step (B := T50.setTop (mkF m 265 #[.val (.int p0), .val (.int p1), .val (.int p2), .val (.int p3), .val (.int p4), .val (.int p5), .val (.ref ss), .val (.int (0 : Int32)), .val (.int v5), .val (.int c0), .val (.int c1), .unset, .unset, .unset] [])) (fun t k => XS.icmpYes X50.here hx rfl (pc0 := 248) (pc' := 265) rfl (hb hby at_248) rfl (feq hc248).2 (by decide) (by decide) k) ?_
        refine own_step (B := T50.setTop (mkF m 266 #[.val (.int p0), .val (.int p1), .val (.int p2), .val (.int p3), .val (.int p4), .val (.int p5), .val (.ref ss), .val (.int (0 : Int32)), .val (.int v5), .val (.int c0), .val (.int c1), .unset, .unset, .unset] [(.int (0 : Int32))])) (fun t k => XS.iconst X50.here hx rfl (hb hby at_265) k) ?_
        try simp only [if_neg hc248] at hJ
        exact hJ _ _ X50 e50 N0
    refine J52 ?_
    clear J52
    intro T54 ls54 X54 e54 N0
    obtain ⟨c2, e_c2⟩ : ∃ z, z = (if (((p3.toUInt32 >>> ((2 : Int32) &&& 31).toUInt32).toInt32) &&& (1 : Int32)) = (1 : Int32) then (if v25 = v5 then (1 : Int32) else (0 : Int32)) else (0 : Int32)) := ⟨_, rfl⟩
    rw [← e_c2]
    refine own_step (B := T54.setTop (mkF m 268 #[.val (.int p0), .val (.int p1), .val (.int p2), .val (.int p3), .val (.int p4), .val (.int p5), .val (.ref ss), .val (.int (0 : Int32)), .val (.int v5), .val (.int c0), .val (.int c1), .val (.int c2), .unset, .unset] [])) (fun t k => XS.istore X54.here hx rfl (hb hby at_266) rfl (l' := #[.val (.int p0), .val (.int p1), .val (.int p2), .val (.int p3), .val (.int p4), .val (.int p5), .val (.ref ss), .val (.int (0 : Int32)), .val (.int v5), .val (.int c0), .val (.int c1), .val (.int c2), .unset, .unset]) rfl k) ?_
    refine own_step (B := T54.setTop (mkF m 270 #[.val (.int p0), .val (.int p1), .val (.int p2), .val (.int p3), .val (.int p4), .val (.int p5), .val (.ref ss), .val (.int (0 : Int32)), .val (.int v5), .val (.int c0), .val (.int c1), .val (.int c2), .unset, .unset] [(.int (0 : Int32))])) (fun t k => XS.iload X54.here hx rfl (hb hby at_268) rfl k) ?_
    have J55 : (∀ (T' : State) (ls' : List Loc), Stand p l e room_1 s m #[(.int p0), (.int p1), (.int p2), (.int p3), (.int p4), (.int p5)] below meth c T' ls' 1 12 → T'.heap = h41 → Fr n0 ls' → own_G p.tables e below s (QQ_rm0 Z p0 p1 p2 p3 p4 p5 h0 n0) room_1.cells room_1.slots (T'.setTop (mkF m 305 #[.val (.int p0), .val (.int p1), .val (.int p2), .val (.int p3), .val (.int p4), .val (.int p5), .val (.ref ss), .val (.int (0 : Int32)), .val (.int v5), .val (.int c0), .val (.int c1), .val (.int c2), .unset, .unset] [(.int (1 : Int32))]))) → own_G p.tables e below s (QQ_rm0 Z p0 p1 p2 p3 p4 p5 h0 n0) room_1.cells room_1.slots (T54.setTop (mkF m 270 #[.val (.int p0), .val (.int p1), .val (.int p2), .val (.int p3), .val (.int p4), .val (.int p5), .val (.ref ss), .val (.int (0 : Int32)), .val (.int v5), .val (.int c0), .val (.int c1), .val (.int c2), .unset, .unset] [(.int (0 : Int32))])) := by
      intro hJ
      refine own_step (B := T54.setTop (mkF m 278 #[.val (.int p0), .val (.int p1), .val (.int p2), .val (.int p3), .val (.int p4), .val (.int p5), .val (.ref ss), .val (.int (0 : Int32)), .val (.int v5), .val (.int c0), .val (.int c1), .val (.int c2), .unset, .unset] [])) (fun t k => XS.ifYes X54.here hx rfl (pc0 := 270) (pc' := 278) rfl (hb hby at_270) rfl ((if0 _ _).trans (flt (by decide)).2.2.2) (by decide) (by decide) k) ?_
      refine own_step (B := T54.setTop (mkF m 280 #[.val (.int p0), .val (.int p1), .val (.int p2), .val (.int p3), .val (.int p4), .val (.int p5), .val (.ref ss), .val (.int (0 : Int32)), .val (.int v5), .val (.int c0), .val (.int c1), .val (.int c2), .unset, .unset] [(.int (0 : Int32))])) (fun t k => XS.iload X54.here hx rfl (hb hby at_278) rfl k) ?_
      refine own_step (B := T54.setTop (mkF m 281 #[.val (.int p0), .val (.int p1), .val (.int p2), .val (.int p3), .val (.int p4), .val (.int p5), .val (.ref ss), .val (.int (0 : Int32)), .val (.int v5), .val (.int c0), .val (.int c1), .val (.int c2), .unset, .unset] [(.int (1 : Int32)), (.int (0 : Int32))])) (fun t k => XS.iconst X54.here hx rfl (hb hby at_280) k) ?_
      refine own_step (B := T54.setTop (mkF m 289 #[.val (.int p0), .val (.int p1), .val (.int p2), .val (.int p3), .val (.int p4), .val (.int p5), .val (.ref ss), .val (.int (0 : Int32)), .val (.int v5), .val (.int c0), .val (.int c1), .val (.int c2), .unset, .unset] [])) (fun t k => XS.icmpYes X54.here hx rfl (pc0 := 281) (pc' := 289) rfl (hb hby at_281) rfl (flt (by decide)).2.2.2 (by decide) (by decide) k) ?_
      refine own_step (B := T54.setTop (mkF m 291 #[.val (.int p0), .val (.int p1), .val (.int p2), .val (.int p3), .val (.int p4), .val (.int p5), .val (.ref ss), .val (.int (0 : Int32)), .val (.int v5), .val (.int c0), .val (.int c1), .val (.int c2), .unset, .unset] [(.int (0 : Int32))])) (fun t k => XS.iload X54.here hx rfl (hb hby at_289) rfl k) ?_
      refine own_step (B := T54.setTop (mkF m 292 #[.val (.int p0), .val (.int p1), .val (.int p2), .val (.int p3), .val (.int p4), .val (.int p5), .val (.ref ss), .val (.int (0 : Int32)), .val (.int v5), .val (.int c0), .val (.int c1), .val (.int c2), .unset, .unset] [(.int (2 : Int32)), (.int (0 : Int32))])) (fun t k => XS.iconst X54.here hx rfl (hb hby at_291) k) ?_
      refine own_step (B := T54.setTop (mkF m 300 #[.val (.int p0), .val (.int p1), .val (.int p2), .val (.int p3), .val (.int p4), .val (.int p5), .val (.ref ss), .val (.int (0 : Int32)), .val (.int v5), .val (.int c0), .val (.int c1), .val (.int c2), .unset, .unset] [])) (fun t k => XS.icmpYes X54.here hx rfl (pc0 := 292) (pc' := 300) rfl (hb hby at_292) rfl (flt (by decide)).2.2.2 (by decide) (by decide) k) ?_
      refine own_step (B := T54.setTop (mkF m 301 #[.val (.int p0), .val (.int p1), .val (.int p2), .val (.int p3), .val (.int p4), .val (.int p5), .val (.ref ss), .val (.int (0 : Int32)), .val (.int v5), .val (.int c0), .val (.int c1), .val (.int c2), .unset, .unset] [(.int (1 : Int32))])) (fun t k => XS.iconst X54.here hx rfl (hb hby at_300) k) ?_
      refine own_step (B := T54.setTop (mkF m 305 #[.val (.int p0), .val (.int p1), .val (.int p2), .val (.int p3), .val (.int p4), .val (.int p5), .val (.ref ss), .val (.int (0 : Int32)), .val (.int v5), .val (.int c0), .val (.int c1), .val (.int c2), .unset, .unset] [(.int (1 : Int32))])) (fun t k => XS.goto X54.here hx rfl (pc0 := 301) (pc' := 305) rfl (hb hby at_301) (by decide) (by decide) k) ?_
      exact hJ _ _ X54 e54 N0
    refine J55 ?_
    clear J55
    intro T56 ls56 X56 e56 N0
    obtain ⟨ex, e_ex⟩ : ∃ z, z = (1 : Int32) := ⟨_, rfl⟩
    rw [← e_ex]
    refine own_step (B := T56.setTop (mkF m 307 #[.val (.int p0), .val (.int p1), .val (.int p2), .val (.int p3), .val (.int p4), .val (.int p5), .val (.ref ss), .val (.int (0 : Int32)), .val (.int v5), .val (.int c0), .val (.int c1), .val (.int c2), .val (.int ex), .unset] [])) (fun t k => XS.istore X56.here hx rfl (hb hby at_305) rfl (l' := #[.val (.int p0), .val (.int p1), .val (.int p2), .val (.int p3), .val (.int p4), .val (.int p5), .val (.ref ss), .val (.int (0 : Int32)), .val (.int v5), .val (.int c0), .val (.int c1), .val (.int c2), .val (.int ex), .unset]) rfl k) ?_
    obtain ⟨T57, h57, X57, e57, E57, A57, D57, -, st57⟩ := newO X56 hx hZ hown (hw _ (List.mem_of_getElem? (i := 5) rfl)) (hw _ (List.mem_of_getElem? (i := 6) rfl)) (hw _ (List.mem_of_getElem? (i := 7) rfl)) e56 (g := (mkF m 307 #[.val (.int p0), .val (.int p1), .val (.int p2), .val (.int p3), .val (.int p4), .val (.int p5), .val (.ref ss), .val (.int (0 : Int32)), .val (.int v5), .val (.int c0), .val (.int c1), .val (.int c2), .val (.int ex), .unset] [])) rfl (hb hby at_307) (by decide) (by decide)
    obtain ⟨tt, g57⟩ : ∃ z, z = h41.size := ⟨_, rfl⟩
    rw [← g57] at A57 D57 st57
    have g_tt : n0 ≤ tt := Nat.le_trans Z0 (Nat.le_of_eq g57.symm)
    have ne_ss_tt : ss ≠ tt := Nat.ne_of_lt (Nat.lt_of_lt_of_le V_ss.lt (Nat.le_of_eq g57.symm))
    have V_ss := V_ss.ext E57
    have Z0 := Nat.le_trans Z0 E57.1
    have E_tt := A57
    have F_index_tt : Fld Z h57 tt "com/example/tightrope/tightrope/history/Transaction" "index" "J" (.long (0 : Int64)) := D57 (Or.inr (hw _ (List.mem_of_getElem? (i := 21) rfl))) (ty := .long) (by decide)
    have F_invoke_tt : Fld Z h57 tt "com/example/tightrope/tightrope/history/Transaction" "invoke" "I" (.int (0 : Int32)) := D57 (Or.inr (hw _ (List.mem_of_getElem? (i := 23) rfl))) (ty := .int) (by decide)
    have F_completion_tt : Fld Z h57 tt "com/example/tightrope/tightrope/history/Transaction" "completion" "I" (.int (0 : Int32)) := D57 (Or.inr (hw _ (List.mem_of_getElem? (i := 25) rfl))) (ty := .int) (by decide)
    have F_required_tt : Fld Z h57 tt "com/example/tightrope/tightrope/history/Transaction" "required" "Z" (.int (0 : Int32)) := D57 (Or.inr (hw _ (List.mem_of_getElem? (i := 27) rfl))) (ty := .boolean) (by decide)
    have F_steps_tt : Fld Z h57 tt "com/example/tightrope/tightrope/history/Transaction" "steps" "[I" .null := D57 (Or.inr (hw _ (List.mem_of_getElem? (i := 29) rfl))) (ty := (.array .int)) (by decide)
    refine own_step (B := T57.setTop (mkF m 310 #[.val (.int p0), .val (.int p1), .val (.int p2), .val (.int p3), .val (.int p4), .val (.int p5), .val (.ref ss), .val (.int (0 : Int32)), .val (.int v5), .val (.int c0), .val (.int c1), .val (.int c2), .val (.int ex), .unset] [(.ref tt)])) (fun t k => st57 t k) ?_
    refine own_step (B := T57.setTop (mkF m 311 #[.val (.int p0), .val (.int p1), .val (.int p2), .val (.int p3), .val (.int p4), .val (.int p5), .val (.ref ss), .val (.int (0 : Int32)), .val (.int v5), .val (.int c0), .val (.int c1), .val (.int c2), .val (.int ex), .unset] [(.ref tt), (.ref tt)])) (fun t k => XS.dup X57.here hx rfl (hb hby at_310) rfl rfl k) ?_
    refine own_step (B := T57.setTop (mkF m 312 #[.val (.int p0), .val (.int p1), .val (.int p2), .val (.int p3), .val (.int p4), .val (.int p5), .val (.ref ss), .val (.int (0 : Int32)), .val (.int v5), .val (.int c0), .val (.int c1), .val (.int c2), .val (.int ex), .unset] [(.long (0 : Int64)), (.ref tt), (.ref tt)])) (fun t k => XS.lconst X57.here hx rfl (hb hby at_311) k) ?_
    refine own_step (B := T57.setTop (mkF m 313 #[.val (.int p0), .val (.int p1), .val (.int p2), .val (.int p3), .val (.int p4), .val (.int p5), .val (.ref ss), .val (.int (0 : Int32)), .val (.int v5), .val (.int c0), .val (.int c1), .val (.int c2), .val (.int ex), .unset] [(.int (1 : Int32)), (.long (0 : Int64)), (.ref tt), (.ref tt)])) (fun t k => XS.iconst X57.here hx rfl (hb hby at_312) k) ?_
    refine own_step (B := T57.setTop (mkF m 315 #[.val (.int p0), .val (.int p1), .val (.int p2), .val (.int p3), .val (.int p4), .val (.int p5), .val (.ref ss), .val (.int (0 : Int32)), .val (.int v5), .val (.int c0), .val (.int c1), .val (.int c2), .val (.int ex), .unset] [(.int (2147483647 : Int32)), (.int (1 : Int32)), (.long (0 : Int64)), (.ref tt), (.ref tt)])) (fun t k => X57.ldcInt hx hown (mvT hZ (hw _ (List.mem_of_getElem? (i := 8) rfl))) (g := (mkF m 313 #[.val (.int p0), .val (.int p1), .val (.int p2), .val (.int p3), .val (.int p4), .val (.int p5), .val (.ref ss), .val (.int (0 : Int32)), .val (.int v5), .val (.int c0), .val (.int c1), .val (.int c2), .val (.int ex), .unset] [(.int (1 : Int32)), (.long (0 : Int64)), (.ref tt), (.ref tt)])) rfl (hb hby at_313) t k) ?_
    refine own_step (B := T57.setTop (mkF m 316 #[.val (.int p0), .val (.int p1), .val (.int p2), .val (.int p3), .val (.int p4), .val (.int p5), .val (.ref ss), .val (.int (0 : Int32)), .val (.int v5), .val (.int c0), .val (.int c1), .val (.int c2), .val (.int ex), .unset] [(.int (1 : Int32)), (.int (2147483647 : Int32)), (.int (1 : Int32)), (.long (0 : Int64)), (.ref tt), (.ref tt)])) (fun t k => XS.iconst X57.here hx rfl (hb hby at_315) k) ?_
    refine own_step (B := T57.setTop (mkF m 318 #[.val (.int p0), .val (.int p1), .val (.int p2), .val (.int p3), .val (.int p4), .val (.int p5), .val (.ref ss), .val (.int (0 : Int32)), .val (.int v5), .val (.int c0), .val (.int c1), .val (.int c2), .val (.int ex), .unset] [(.ref ss), (.int (1 : Int32)), (.int (2147483647 : Int32)), (.int (1 : Int32)), (.long (0 : Int64)), (.ref tt), (.ref tt)])) (fun t k => XS.aload X57.here hx rfl (hb hby at_316) rfl rfl k) ?_
    obtain ⟨_, _, ⟨T58, L58, k58, n58⟩, -, X58, ⟨Lc58, hQ58, l58, y58, z58⟩, st58⟩ := X57.specialBack hx (y := (⟨"com/example/tightrope/tightrope/history/Transaction", "<init>", "(JIIZ[I)V"⟩ : MethodName)) rfl hown (mvT hZ (hw _ (List.mem_of_getElem? (i := 9) rfl))) (mvT hZ (hw _ (List.mem_of_getElem? (i := 10) rfl))) (mvT hZ (hw _ (List.mem_of_getElem? (i := 11) rfl))) (by decide) (backOf (W := 1) (rm2 l Z a0 hw [] tt (0 : Int64) (1 : Int32) (2147483647 : Int32) (1 : Int32) ss  h57 n0 Z0 E_tt g_tt F_index_tt F_invoke_tt F_completion_tt F_required_tt F_steps_tt) hZ (hw _ (List.mem_of_getElem? (i := 11) rfl)) (hw _ (List.mem_of_getElem? (i := 7) rfl)) (by decide) (by decide)) (g := (mkF m 318 #[.val (.int p0), .val (.int p1), .val (.int p2), .val (.int p3), .val (.int p4), .val (.int p5), .val (.ref ss), .val (.int (0 : Int32)), .val (.int v5), .val (.int c0), .val (.int c1), .val (.int c2), .val (.int ex), .unset] [(.ref ss), (.int (1 : Int32)), (.int (2147483647 : Int32)), (.int (1 : Int32)), (.long (0 : Int64)), (.ref tt), (.ref tt)])) rfl (by rw [hml]; rfl) (Steps.refl _) (a := tt) (argsL := [(.long (0 : Int64)), (.int (1 : Int32)), (.int (2147483647 : Int32)), (.int (1 : Int32)), (.ref ss)]) (rest := [(.ref tt)]) (lenOf pd_2 rfl) rfl (by show 2 * 0 + _ ≤ _; exact Nat.le_of_eq rfl) (hb hby at_318) (fun _ _ => ⟨rfl, e57, (by decide : 2 + 0 ≤ _), (by decide : 17 + 0 ≤ _)⟩)
    dsimp only [Pt.U, Pt.locs, Pt.cells, Pt.slots] at X58 l58 y58 z58 st58 hQ58
    subst l58 y58 z58
    obtain ⟨rfl, N58q, K58, G58⟩ := hQ58
    have N0 := Fr.app N0 N58q
    have V_ss := V_ss.keep K58 (ninS ne_ss_tt nin0)
    have E_tt := E_tt.keep K58
    have Z0 := Nat.le_trans Z0 K58.1
    have F_steps_tt := G58
    refine own_step (B := T58.setTop (mkF m 321 #[.val (.int p0), .val (.int p1), .val (.int p2), .val (.int p3), .val (.int p4), .val (.int p5), .val (.ref ss), .val (.int (0 : Int32)), .val (.int v5), .val (.int c0), .val (.int c1), .val (.int c2), .val (.int ex), .unset] [(.ref tt)])) (fun t k => st58.trans k) ?_
    refine own_step (B := T58.setTop (mkF m 323 #[.val (.int p0), .val (.int p1), .val (.int p2), .val (.int p3), .val (.int p4), .val (.int p5), .val (.ref ss), .val (.int (0 : Int32)), .val (.int v5), .val (.int c0), .val (.int c1), .val (.int c2), .val (.int ex), .val (.ref tt)] [])) (fun t k => XS.astore X58.here hx rfl (hb hby at_321) rfl rfl (l' := #[.val (.int p0), .val (.int p1), .val (.int p2), .val (.int p3), .val (.int p4), .val (.int p5), .val (.ref ss), .val (.int (0 : Int32)), .val (.int v5), .val (.int c0), .val (.int c1), .val (.int c2), .val (.int ex), .val (.ref tt)]) rfl k) ?_
    refine own_step (B := T58.setTop (mkF m 325 #[.val (.int p0), .val (.int p1), .val (.int p2), .val (.int p3), .val (.int p4), .val (.int p5), .val (.ref ss), .val (.int (0 : Int32)), .val (.int v5), .val (.int c0), .val (.int c1), .val (.int c2), .val (.int ex), .val (.ref tt)] [(.ref tt)])) (fun t k => XS.aload X58.here hx rfl (hb hby at_323) rfl rfl k) ?_
    refine own_step (B := T58.setTop (mkF m 326 #[.val (.int p0), .val (.int p1), .val (.int p2), .val (.int p3), .val (.int p4), .val (.int p5), .val (.ref ss), .val (.int (0 : Int32)), .val (.int v5), .val (.int c0), .val (.int c1), .val (.int c2), .val (.int ex), .val (.ref tt)] [(.int (3 : Int32)), (.ref tt)])) (fun t k => XS.iconst X58.here hx rfl (hb hby at_325) k) ?_
    refine own_step (B := T58.setTop (mkF m 328 #[.val (.int p0), .val (.int p1), .val (.int p2), .val (.int p3), .val (.int p4), .val (.int p5), .val (.ref ss), .val (.int (0 : Int32)), .val (.int v5), .val (.int c0), .val (.int c1), .val (.int c2), .val (.int ex), .val (.ref tt)] [(.int (0 : Int32)), (.int (3 : Int32)), (.ref tt)])) (fun t k => XS.iload X58.here hx rfl (hb hby at_326) rfl k) ?_
    refine own_step (B := T58.setTop (mkF m 329 #[.val (.int p0), .val (.int p1), .val (.int p2), .val (.int p3), .val (.int p4), .val (.int p5), .val (.ref ss), .val (.int (0 : Int32)), .val (.int v5), .val (.int c0), .val (.int c1), .val (.int c2), .val (.int ex), .val (.ref tt)] [(.int (0 : Int32)), (.ref tt)])) (fun t k => XS.imul X58.here hx rfl (hb hby at_328) rfl k) ?_
    obtain ⟨cq59, kq59, q59a, q59b, q59c⟩ := isOf hZ rfl E_tt
    obtain ⟨_, _, ⟨T59, L59, k59, n59⟩, -, X59, ⟨Lc59, hQ59, l59, y59, z59⟩, st59⟩ := X58.virtualBack hx (y := (⟨"com/example/tightrope/tightrope/history/Transaction", "readsFromOutside", "(I)Z"⟩ : MethodName)) (z := (⟨"com/example/tightrope/tightrope/history/Transaction", "readsFromOutside", "(I)Z"⟩ : MethodName)) hown (mvT hZ (hw _ (List.mem_of_getElem? (i := 30) rfl))) (mvT hZ (hw _ (List.mem_of_getElem? (i := 31) rfl))) (notFace_of_selects (args := #[]) (mvT hZ (hw _ (List.mem_of_getElem? (i := 33) rfl)))) (mvT hZ (hw _ (List.mem_of_getElem? (i := 33) rfl))) (mvT hZ (hw _ (List.mem_of_getElem? (i := 32) rfl))) (by decide) (backOf (W := 0) (rmr0 l Z a0 hw [] tt _ _ _ _ _ _ _ _ _ _ _ _ _ _ T58.heap n0 Z0 F_steps_tt V_ss) hZ (hw _ (List.mem_of_getElem? (i := 34) rfl)) (hw _ (List.mem_of_getElem? (i := 7) rfl)) (by decide) (by decide)) q59a q59c (g := (mkF m 329 #[.val (.int p0), .val (.int p1), .val (.int p2), .val (.int p3), .val (.int p4), .val (.int p5), .val (.ref ss), .val (.int (0 : Int32)), .val (.int v5), .val (.int c0), .val (.int c1), .val (.int c2), .val (.int ex), .val (.ref tt)] [(.int (0 : Int32)), (.ref tt)])) rfl (by rw [hml]; rfl) (Steps.refl _) (argsL := [(.int (0 : Int32))]) (rest := []) (lenOf pd_3 rfl) rfl (by show 2 * 0 + _ ≤ _; exact Nat.le_of_eq rfl) (hb hby at_329) (fun _ _ => ⟨rfl, rfl, (by decide : 2 + 0 ≤ _), (by decide : 17 + 0 ≤ _)⟩)
    dsimp only [Pt.U, Pt.locs, Pt.cells, Pt.slots] at X59 l59 y59 z59 st59 hQ59
    subst l59 y59 z59
    obtain ⟨rfl, N59q, e59⟩ := hQ59
    have N0 := Fr.app N0 N59q
    refine own_step (B := T59.setTop (mkF m 332 #[.val (.int p0), .val (.int p1), .val (.int p2), .val (.int p3), .val (.int p4), .val (.int p5), .val (.ref ss), .val (.int (0 : Int32)), .val (.int v5), .val (.int c0), .val (.int c1), .val (.int c2), .val (.int ex), .val (.ref tt)] [(.int (1 : Int32))])) (fun t k => st59.trans k) ?_
    refine own_step (B := T59.setTop (mkF m 334 #[.val (.int p0), .val (.int p1), .val (.int p2), .val (.int p3), .val (.int p4), .val (.int p5), .val (.ref ss), .val (.int (0 : Int32)), .val (.int v5), .val (.int c0), .val (.int c1), .val (.int c2), .val (.int ex), .val (.ref tt)] [(.int ex), (.int (1 : Int32))])) (fun t k => XS.iload X59.here hx rfl (hb hby at_332) rfl k) ?_
    refine own_step (B := T59.setTop (mkF m 337 #[.val (.int p0), .val (.int p1), .val (.int p2), .val (.int p3), .val (.int p4), .val (.int p5), .val (.ref ss), .val (.int (0 : Int32)), .val (.int v5), .val (.int c0), .val (.int c1), .val (.int c2), .val (.int ex), .val (.ref tt)] [])) (fun t k => XS.icmpNo X59.here hx rfl (hb hby at_334) rfl (teq (by first | (rw [e_ex]; done) | (rw [e_ex]; rfl))).2 k) ?_
    refine own_step (B := T59.setTop (mkF m 338 #[.val (.int p0), .val (.int p1), .val (.int p2), .val (.int p3), .val (.int p4), .val (.int p5), .val (.ref ss), .val (.int (0 : Int32)), .val (.int v5), .val (.int c0), .val (.int c1), .val (.int c2), .val (.int ex), .val (.ref tt)] [(.int (1 : Int32))])) (fun t k => XS.iconst X59.here hx rfl (hb hby at_337) k) ?_
    refine own_step (B := T59.setTop (mkF m 342 #[.val (.int p0), .val (.int p1), .val (.int p2), .val (.int p3), .val (.int p4), .val (.int p5), .val (.ref ss), .val (.int (0 : Int32)), .val (.int v5), .val (.int c0), .val (.int c1), .val (.int c2), .val (.int ex), .val (.ref tt)] [(.int (1 : Int32))])) (fun t k => XS.goto X59.here hx rfl (pc0 := 338) (pc' := 342) rfl (hb hby at_338) (by decide) (by decide) k) ?_
    exact own_retN X59 hx hlk (t := .boolean) Bd.returns (by simp) (hb hby at_342) (by decide) (by decide) (by exact ⟨rfl, N0⟩)
  · skip
    refine own_step (B := T41.setTop (mkF m 185 #[.val (.int p0), .val (.int p1), .val (.int p2), .val (.int p3), .val (.int p4), .val (.int p5), .val (.ref ss), .val (.int (1 : Int32)), .unset, .unset, .unset, .unset, .unset, .unset] [(.ref ss)])) (fun t k => XS.aload X41.here hx rfl (hb hby at_183) rfl rfl k) ?_
    refine own_step (B := T41.setTop (mkF m 186 #[.val (.int p0), .val (.int p1), .val (.int p2), .val (.int p3), .val (.int p4), .val (.int p5), .val (.ref ss), .val (.int (1 : Int32)), .unset, .unset, .unset, .unset, .unset, .unset] [(.int (3 : Int32)), (.ref ss)])) (fun t k => XS.iconst X41.here hx rfl (hb hby at_185) k) ?_
    refine own_step (B := T41.setTop (mkF m 188 #[.val (.int p0), .val (.int p1), .val (.int p2), .val (.int p3), .val (.int p4), .val (.int p5), .val (.ref ss), .val (.int (1 : Int32)), .unset, .unset, .unset, .unset, .unset, .unset] [(.int (1 : Int32)), (.int (3 : Int32)), (.ref ss)])) (fun t k => XS.iload X41.here hx rfl (hb hby at_186) rfl k) ?_
    refine own_step (B := T41.setTop (mkF m 189 #[.val (.int p0), .val (.int p1), .val (.int p2), .val (.int p3), .val (.int p4), .val (.int p5), .val (.ref ss), .val (.int (1 : Int32)), .unset, .unset, .unset, .unset, .unset, .unset] [(.int (3 : Int32)), (.ref ss)])) (fun t k => XS.imul X41.here hx rfl (hb hby at_188) rfl k) ?_
    refine own_step (B := T41.setTop (mkF m 190 #[.val (.int p0), .val (.int p1), .val (.int p2), .val (.int p3), .val (.int p4), .val (.int p5), .val (.ref ss), .val (.int (1 : Int32)), .unset, .unset, .unset, .unset, .unset, .unset] [(.int (1 : Int32)), (.int (3 : Int32)), (.ref ss)])) (fun t k => XS.iconst X41.here hx rfl (hb hby at_189) k) ?_
    refine own_step (B := T41.setTop (mkF m 191 #[.val (.int p0), .val (.int p1), .val (.int p2), .val (.int p3), .val (.int p4), .val (.int p5), .val (.ref ss), .val (.int (1 : Int32)), .unset, .unset, .unset, .unset, .unset, .unset] [(.int (4 : Int32)), (.ref ss)])) (fun t k => XS.iadd X41.here hx rfl (hb hby at_190) rfl k) ?_
    have Vo_60 := V_ss
    obtain ⟨cl_60, Ar_60, q_60, S_60, M_60, H_60, G_60⟩ := Vo_60
    refine own_step (B := T41.setTop (mkF m 192 #[.val (.int p0), .val (.int p1), .val (.int p2), .val (.int p3), .val (.int p4), .val (.int p5), .val (.ref ss), .val (.int (1 : Int32)), .unset, .unset, .unset, .unset, .unset, .unset] [(.int v15)])) (fun t k => X41.iaload hx (j := (4 : Int32)) (v := (.int v15)) (by rw [e41]; exact Ar_60.1) (State.isArrayOf_alike hZ.alike Ar_60.2.1) Ar_60.2.2 (inb_of S_60 ⟨by decide, by decide⟩) (Has.at H_60 (inb_of S_60 ⟨by decide, by decide⟩) rfl) (g := (mkF m 191 #[.val (.int p0), .val (.int p1), .val (.int p2), .val (.int p3), .val (.int p4), .val (.int p5), .val (.ref ss), .val (.int (1 : Int32)), .unset, .unset, .unset, .unset, .unset, .unset] [(.int (4 : Int32)), (.ref ss)])) rfl rfl (hb hby at_191) t k) ?_
    refine own_step (B := T41.setTop (mkF m 194 #[.val (.int p0), .val (.int p1), .val (.int p2), .val (.int p3), .val (.int p4), .val (.int p5), .val (.ref ss), .val (.int (1 : Int32)), .val (.int v15), .unset, .unset, .unset, .unset, .unset] [])) (fun t k => XS.istore X41.here hx rfl (hb hby at_192) rfl (l' := #[.val (.int p0), .val (.int p1), .val (.int p2), .val (.int p3), .val (.int p4), .val (.int p5), .val (.ref ss), .val (.int (1 : Int32)), .val (.int v15), .unset, .unset, .unset, .unset, .unset]) rfl k) ?_
    refine own_step (B := T41.setTop (mkF m 196 #[.val (.int p0), .val (.int p1), .val (.int p2), .val (.int p3), .val (.int p4), .val (.int p5), .val (.ref ss), .val (.int (1 : Int32)), .val (.int v15), .unset, .unset, .unset, .unset, .unset] [(.ref ss)])) (fun t k => XS.aload X41.here hx rfl (hb hby at_194) rfl rfl k) ?_
    refine own_step (B := T41.setTop (mkF m 197 #[.val (.int p0), .val (.int p1), .val (.int p2), .val (.int p3), .val (.int p4), .val (.int p5), .val (.ref ss), .val (.int (1 : Int32)), .val (.int v15), .unset, .unset, .unset, .unset, .unset] [(.int (0 : Int32)), (.ref ss)])) (fun t k => XS.iconst X41.here hx rfl (hb hby at_196) k) ?_
    have Vo_61 := V_ss
    obtain ⟨cl_61, Ar_61, q_61, S_61, M_61, H_61, G_61⟩ := Vo_61
    refine own_step (B := T41.setTop (mkF m 198 #[.val (.int p0), .val (.int p1), .val (.int p2), .val (.int p3), .val (.int p4), .val (.int p5), .val (.ref ss), .val (.int (1 : Int32)), .val (.int v15), .unset, .unset, .unset, .unset, .unset] [(.int (p3 &&& (1 : Int32)))])) (fun t k => X41.iaload hx (j := (0 : Int32)) (v := (.int (p3 &&& (1 : Int32)))) (by rw [e41]; exact Ar_61.1) (State.isArrayOf_alike hZ.alike Ar_61.2.1) Ar_61.2.2 (inb_of S_61 ⟨by decide, by decide⟩) (Has.at H_61 (inb_of S_61 ⟨by decide, by decide⟩) rfl) (g := (mkF m 197 #[.val (.int p0), .val (.int p1), .val (.int p2), .val (.int p3), .val (.int p4), .val (.int p5), .val (.ref ss), .val (.int (1 : Int32)), .val (.int v15), .unset, .unset, .unset, .unset, .unset] [(.int (0 : Int32)), (.ref ss)])) rfl rfl (hb hby at_197) t k) ?_
    refine own_step (B := T41.setTop (mkF m 199 #[.val (.int p0), .val (.int p1), .val (.int p2), .val (.int p3), .val (.int p4), .val (.int p5), .val (.ref ss), .val (.int (1 : Int32)), .val (.int v15), .unset, .unset, .unset, .unset, .unset] [(.int (1 : Int32)), (.int (p3 &&& (1 : Int32)))])) (fun t k => XS.iconst X41.here hx rfl (hb hby at_198) k) ?_
    have J62 : (∀ (T' : State) (ls' : List Loc), Stand p l e room_1 s m #[(.int p0), (.int p1), (.int p2), (.int p3), (.int p4), (.int p5)] below meth c T' ls' 1 12 → T'.heap = h41 → Fr n0 ls' → own_G p.tables e below s (QQ_rm0 Z p0 p1 p2 p3 p4 p5 h0 n0) room_1.cells room_1.slots (T'.setTop (mkF m 216 #[.val (.int p0), .val (.int p1), .val (.int p2), .val (.int p3), .val (.int p4), .val (.int p5), .val (.ref ss), .val (.int (1 : Int32)), .val (.int v15), .unset, .unset, .unset, .unset, .unset] [(.int (if (p3 &&& (1 : Int32)) = (1 : Int32) then (if v5 = v15 then (1 : Int32) else (0 : Int32)) else (0 : Int32)))]))) → own_G p.tables e below s (QQ_rm0 Z p0 p1 p2 p3 p4 p5 h0 n0) room_1.cells room_1.slots (T41.setTop (mkF m 199 #[.val (.int p0), .val (.int p1), .val (.int p2), .val (.int p3), .val (.int p4), .val (.int p5), .val (.ref ss), .val (.int (1 : Int32)), .val (.int v15), .unset, .unset, .unset, .unset, .unset] [(.int (1 : Int32)), (.int (p3 &&& (1 : Int32)))])) := by
      intro hJ
      by_cases hc199 : (p3 &&& (1 : Int32)) = (1 : Int32)
      · skip
        refine own_step (B := T41.setTop (mkF m 202 #[.val (.int p0), .val (.int p1), .val (.int p2), .val (.int p3), .val (.int p4), .val (.int p5), .val (.ref ss), .val (.int (1 : Int32)), .val (.int v15), .unset, .unset, .unset, .unset, .unset] [])) (fun t k => XS.icmpNo X41.here hx rfl (hb hby at_199) rfl (teq hc199).2 k) ?_
        refine own_step (B := T41.setTop (mkF m 204 #[.val (.int p0), .val (.int p1), .val (.int p2), .val (.int p3), .val (.int p4), .val (.int p5), .val (.ref ss), .val (.int (1 : Int32)), .val (.int v15), .unset, .unset, .unset, .unset, .unset] [(.ref ss)])) (fun t k => XS.aload X41.here hx rfl (hb hby at_202) rfl rfl k) ?_
        refine own_step (B := T41.setTop (mkF m 205 #[.val (.int p0), .val (.int p1), .val (.int p2), .val (.int p3), .val (.int p4), .val (.int p5), .val (.ref ss), .val (.int (1 : Int32)), .val (.int v15), .unset, .unset, .unset, .unset, .unset] [(.int (1 : Int32)), (.ref ss)])) (fun t k => XS.iconst X41.here hx rfl (hb hby at_204) k) ?_
        have Vo_63 := V_ss
        obtain ⟨cl_63, Ar_63, q_63, S_63, M_63, H_63, G_63⟩ := Vo_63
        refine own_step (B := T41.setTop (mkF m 206 #[.val (.int p0), .val (.int p1), .val (.int p2), .val (.int p3), .val (.int p4), .val (.int p5), .val (.ref ss), .val (.int (1 : Int32)), .val (.int v15), .unset, .unset, .unset, .unset, .unset] [(.int v5)])) (fun t k => X41.iaload hx (j := (1 : Int32)) (v := (.int v5)) (by rw [e41]; exact Ar_63.1) (State.isArrayOf_alike hZ.alike Ar_63.2.1) Ar_63.2.2 (inb_of S_63 ⟨by decide, by decide⟩) (Has.at H_63 (inb_of S_63 ⟨by decide, by decide⟩) rfl) (g := (mkF m 205 #[.val (.int p0), .val (.int p1), .val (.int p2), .val (.int p3), .val (.int p4), .val (.int p5), .val (.ref ss), .val (.int (1 : Int32)), .val (.int v15), .unset, .unset, .unset, .unset, .unset] [(.int (1 : Int32)), (.ref ss)])) rfl rfl (hb hby at_205) t k) ?_
        refine own_step (B := T41.setTop (mkF m 208 #[.val (.int p0), .val (.int p1), .val (.int p2), .val (.int p3), .val (.int p4), .val (.int p5), .val (.ref ss), .val (.int (1 : Int32)), .val (.int v15), .unset, .unset, .unset, .unset, .unset] [(.int v15), (.int v5)])) (fun t k => XS.iload X41.here hx rfl (hb hby at_206) rfl k) ?_
        by_cases hc208 : v5 = v15
        · skip
          refine own_step (B := T41.setTop (mkF m 211 #[.val (.int p0), .val (.int p1), .val (.int p2), .val (.int p3), .val (.int p4), .val (.int p5), .val (.ref ss), .val (.int (1 : Int32)), .val (.int v15), .unset, .unset, .unset, .unset, .unset] [])) (fun t k => XS.icmpNo X41.here hx rfl (hb hby at_208) rfl (teq hc208).2 k) ?_
          refine own_step (B := T41.setTop (mkF m 212 #[.val (.int p0), .val (.int p1), .val (.int p2), .val (.int p3), .val (.int p4), .val (.int p5), .val (.ref ss), .val (.int (1 : Int32)), .val (.int v15), .unset, .unset, .unset, .unset, .unset] [(.int (1 : Int32))])) (fun t k => XS.iconst X41.here hx rfl (hb hby at_211) k) ?_
          refine own_step (B := T41.setTop (mkF m 216 #[.val (.int p0), .val (.int p1), .val (.int p2), .val (.int p3), .val (.int p4), .val (.int p5), .val (.ref ss), .val (.int (1 : Int32)), .val (.int v15), .unset, .unset, .unset, .unset, .unset] [(.int (1 : Int32))])) (fun t k => XS.goto X41.here hx rfl (pc0 := 212) (pc' := 216) rfl (hb hby at_212) (by decide) (by decide) k) ?_
          try simp only [if_pos hc199, if_pos hc208] at hJ
          exact hJ _ _ X41 e41 N0
        · skip
          refine own_step (B := T41.setTop (mkF m 215 #[.val (.int p0), .val (.int p1), .val (.int p2), .val (.int p3), .val (.int p4), .val (.int p5), .val (.ref ss), .val (.int (1 : Int32)), .val (.int v15), .unset, .unset, .unset, .unset, .unset] [])) (fun t k => XS.icmpYes X41.here hx rfl (pc0 := 208) (pc' := 215) rfl (hb hby at_208) rfl (feq hc208).2 (by decide) (by decide) k) ?_
          refine own_step (B := T41.setTop (mkF m 216 #[.val (.int p0), .val (.int p1), .val (.int p2), .val (.int p3), .val (.int p4), .val (.int p5), .val (.ref ss), .val (.int (1 : Int32)), .val (.int v15), .unset, .unset, .unset, .unset, .unset] [(.int (0 : Int32))])) (fun t k => XS.iconst X41.here hx rfl (hb hby at_215) k) ?_
          try simp only [if_pos hc199, if_neg hc208] at hJ
          exact hJ _ _ X41 e41 N0
      · skip
        refine own_step (B := T41.setTop (mkF m 215 #[.val (.int p0), .val (.int p1), .val (.int p2), .val (.int p3), .val (.int p4), .val (.int p5), .val (.ref ss), .val (.int (1 : Int32)), .val (.int v15), .unset, .unset, .unset, .unset, .unset] [])) (fun t k => XS.icmpYes X41.here hx rfl (pc0 := 199) (pc' := 215) rfl (hb hby at_199) rfl (feq hc199).2 (by decide) (by decide) k) ?_
        refine own_step (B := T41.setTop (mkF m 216 #[.val (.int p0), .val (.int p1), .val (.int p2), .val (.int p3), .val (.int p4), .val (.int p5), .val (.ref ss), .val (.int (1 : Int32)), .val (.int v15), .unset, .unset, .unset, .unset, .unset] [(.int (0 : Int32))])) (fun t k => XS.iconst X41.here hx rfl (hb hby at_215) k) ?_
        try simp only [if_neg hc199] at hJ
        exact hJ _ _ X41 e41 N0
    refine J62 ?_
    clear J62
    intro T64 ls64 X64 e64 N0
    obtain ⟨c0, e_c0⟩ : ∃ z, z = (if (p3 &&& (1 : Int32)) = (1 : Int32) then (if v5 = v15 then (1 : Int32) else (0 : Int32)) else (0 : Int32)) := ⟨_, rfl⟩
    rw [← e_c0]
    refine own_step (B := T64.setTop (mkF m 218 #[.val (.int p0), .val (.int p1), .val (.int p2), .val (.int p3), .val (.int p4), .val (.int p5), .val (.ref ss), .val (.int (1 : Int32)), .val (.int v15), .val (.int c0), .unset, .unset, .unset, .unset] [])) (fun t k => XS.istore X64.here hx rfl (hb hby at_216) rfl (l' := #[.val (.int p0), .val (.int p1), .val (.int p2), .val (.int p3), .val (.int p4), .val (.int p5), .val (.ref ss), .val (.int (1 : Int32)), .val (.int v15), .val (.int c0), .unset, .unset, .unset, .unset]) rfl k) ?_
    refine own_step (B := T64.setTop (mkF m 220 #[.val (.int p0), .val (.int p1), .val (.int p2), .val (.int p3), .val (.int p4), .val (.int p5), .val (.ref ss), .val (.int (1 : Int32)), .val (.int v15), .val (.int c0), .unset, .unset, .unset, .unset] [(.ref ss)])) (fun t k => XS.aload X64.here hx rfl (hb hby at_218) rfl rfl k) ?_
    refine own_step (B := T64.setTop (mkF m 221 #[.val (.int p0), .val (.int p1), .val (.int p2), .val (.int p3), .val (.int p4), .val (.int p5), .val (.ref ss), .val (.int (1 : Int32)), .val (.int v15), .val (.int c0), .unset, .unset, .unset, .unset] [(.int (3 : Int32)), (.ref ss)])) (fun t k => XS.iconst X64.here hx rfl (hb hby at_220) k) ?_
    have Vo_65 := V_ss
    obtain ⟨cl_65, Ar_65, q_65, S_65, M_65, H_65, G_65⟩ := Vo_65
    refine own_step (B := T64.setTop (mkF m 222 #[.val (.int p0), .val (.int p1), .val (.int p2), .val (.int p3), .val (.int p4), .val (.int p5), .val (.ref ss), .val (.int (1 : Int32)), .val (.int v15), .val (.int c0), .unset, .unset, .unset, .unset] [(.int (((p3.toUInt32 >>> ((1 : Int32) &&& 31).toUInt32).toInt32) &&& (1 : Int32)))])) (fun t k => X64.iaload hx (j := (3 : Int32)) (v := (.int (((p3.toUInt32 >>> ((1 : Int32) &&& 31).toUInt32).toInt32) &&& (1 : Int32)))) (by rw [e64]; exact Ar_65.1) (State.isArrayOf_alike hZ.alike Ar_65.2.1) Ar_65.2.2 (inb_of S_65 ⟨by decide, by decide⟩) (Has.at H_65 (inb_of S_65 ⟨by decide, by decide⟩) rfl) (g := (mkF m 221 #[.val (.int p0), .val (.int p1), .val (.int p2), .val (.int p3), .val (.int p4), .val (.int p5), .val (.ref ss), .val (.int (1 : Int32)), .val (.int v15), .val (.int c0), .unset, .unset, .unset, .unset] [(.int (3 : Int32)), (.ref ss)])) rfl rfl (hb hby at_221) t k) ?_
    refine own_step (B := T64.setTop (mkF m 223 #[.val (.int p0), .val (.int p1), .val (.int p2), .val (.int p3), .val (.int p4), .val (.int p5), .val (.ref ss), .val (.int (1 : Int32)), .val (.int v15), .val (.int c0), .unset, .unset, .unset, .unset] [(.int (1 : Int32)), (.int (((p3.toUInt32 >>> ((1 : Int32) &&& 31).toUInt32).toInt32) &&& (1 : Int32)))])) (fun t k => XS.iconst X64.here hx rfl (hb hby at_222) k) ?_
    have J66 : (∀ (T' : State) (ls' : List Loc), Stand p l e room_1 s m #[(.int p0), (.int p1), (.int p2), (.int p3), (.int p4), (.int p5)] below meth c T' ls' 1 12 → T'.heap = h41 → Fr n0 ls' → own_G p.tables e below s (QQ_rm0 Z p0 p1 p2 p3 p4 p5 h0 n0) room_1.cells room_1.slots (T'.setTop (mkF m 240 #[.val (.int p0), .val (.int p1), .val (.int p2), .val (.int p3), .val (.int p4), .val (.int p5), .val (.ref ss), .val (.int (1 : Int32)), .val (.int v15), .val (.int c0), .unset, .unset, .unset, .unset] [(.int (if (((p3.toUInt32 >>> ((1 : Int32) &&& 31).toUInt32).toInt32) &&& (1 : Int32)) = (1 : Int32) then (1 : Int32) else (0 : Int32)))]))) → own_G p.tables e below s (QQ_rm0 Z p0 p1 p2 p3 p4 p5 h0 n0) room_1.cells room_1.slots (T64.setTop (mkF m 223 #[.val (.int p0), .val (.int p1), .val (.int p2), .val (.int p3), .val (.int p4), .val (.int p5), .val (.ref ss), .val (.int (1 : Int32)), .val (.int v15), .val (.int c0), .unset, .unset, .unset, .unset] [(.int (1 : Int32)), (.int (((p3.toUInt32 >>> ((1 : Int32) &&& 31).toUInt32).toInt32) &&& (1 : Int32)))])) := by
      intro hJ
      by_cases hc223 : (((p3.toUInt32 >>> ((1 : Int32) &&& 31).toUInt32).toInt32) &&& (1 : Int32)) = (1 : Int32)
      · skip
        refine own_step (B := T64.setTop (mkF m 226 #[.val (.int p0), .val (.int p1), .val (.int p2), .val (.int p3), .val (.int p4), .val (.int p5), .val (.ref ss), .val (.int (1 : Int32)), .val (.int v15), .val (.int c0), .unset, .unset, .unset, .unset] [])) (fun t k => XS.icmpNo X64.here hx rfl (hb hby at_223) rfl (teq hc223).2 k) ?_
        refine own_step (B := T64.setTop (mkF m 228 #[.val (.int p0), .val (.int p1), .val (.int p2), .val (.int p3), .val (.int p4), .val (.int p5), .val (.ref ss), .val (.int (1 : Int32)), .val (.int v15), .val (.int c0), .unset, .unset, .unset, .unset] [(.ref ss)])) (fun t k => XS.aload X64.here hx rfl (hb hby at_226) rfl rfl k) ?_
        refine own_step (B := T64.setTop (mkF m 229 #[.val (.int p0), .val (.int p1), .val (.int p2), .val (.int p3), .val (.int p4), .val (.int p5), .val (.ref ss), .val (.int (1 : Int32)), .val (.int v15), .val (.int c0), .unset, .unset, .unset, .unset] [(.int (4 : Int32)), (.ref ss)])) (fun t k => XS.iconst X64.here hx rfl (hb hby at_228) k) ?_
        have Vo_67 := V_ss
        obtain ⟨cl_67, Ar_67, q_67, S_67, M_67, H_67, G_67⟩ := Vo_67
        refine own_step (B := T64.setTop (mkF m 230 #[.val (.int p0), .val (.int p1), .val (.int p2), .val (.int p3), .val (.int p4), .val (.int p5), .val (.ref ss), .val (.int (1 : Int32)), .val (.int v15), .val (.int c0), .unset, .unset, .unset, .unset] [(.int v15)])) (fun t k => X64.iaload hx (j := (4 : Int32)) (v := (.int v15)) (by rw [e64]; exact Ar_67.1) (State.isArrayOf_alike hZ.alike Ar_67.2.1) Ar_67.2.2 (inb_of S_67 ⟨by decide, by decide⟩) (Has.at H_67 (inb_of S_67 ⟨by decide, by decide⟩) rfl) (g := (mkF m 229 #[.val (.int p0), .val (.int p1), .val (.int p2), .val (.int p3), .val (.int p4), .val (.int p5), .val (.ref ss), .val (.int (1 : Int32)), .val (.int v15), .val (.int c0), .unset, .unset, .unset, .unset] [(.int (4 : Int32)), (.ref ss)])) rfl rfl (hb hby at_229) t k) ?_
        refine own_step (B := T64.setTop (mkF m 232 #[.val (.int p0), .val (.int p1), .val (.int p2), .val (.int p3), .val (.int p4), .val (.int p5), .val (.ref ss), .val (.int (1 : Int32)), .val (.int v15), .val (.int c0), .unset, .unset, .unset, .unset] [(.int v15), (.int v15)])) (fun t k => XS.iload X64.here hx rfl (hb hby at_230) rfl k) ?_
        refine own_step (B := T64.setTop (mkF m 235 #[.val (.int p0), .val (.int p1), .val (.int p2), .val (.int p3), .val (.int p4), .val (.int p5), .val (.ref ss), .val (.int (1 : Int32)), .val (.int v15), .val (.int c0), .unset, .unset, .unset, .unset] [])) (fun t k => XS.icmpNo X64.here hx rfl (hb hby at_232) rfl (teq rfl).2 k) ?_
        refine own_step (B := T64.setTop (mkF m 236 #[.val (.int p0), .val (.int p1), .val (.int p2), .val (.int p3), .val (.int p4), .val (.int p5), .val (.ref ss), .val (.int (1 : Int32)), .val (.int v15), .val (.int c0), .unset, .unset, .unset, .unset] [(.int (1 : Int32))])) (fun t k => XS.iconst X64.here hx rfl (hb hby at_235) k) ?_
        refine own_step (B := T64.setTop (mkF m 240 #[.val (.int p0), .val (.int p1), .val (.int p2), .val (.int p3), .val (.int p4), .val (.int p5), .val (.ref ss), .val (.int (1 : Int32)), .val (.int v15), .val (.int c0), .unset, .unset, .unset, .unset] [(.int (1 : Int32))])) (fun t k => XS.goto X64.here hx rfl (pc0 := 236) (pc' := 240) rfl (hb hby at_236) (by decide) (by decide) k) ?_
        try simp only [if_pos hc223] at hJ
        exact hJ _ _ X64 e64 N0
      · skip
        refine own_step (B := T64.setTop (mkF m 239 #[.val (.int p0), .val (.int p1), .val (.int p2), .val (.int p3), .val (.int p4), .val (.int p5), .val (.ref ss), .val (.int (1 : Int32)), .val (.int v15), .val (.int c0), .unset, .unset, .unset, .unset] [])) (fun t k => XS.icmpYes X64.here hx rfl (pc0 := 223) (pc' := 239) rfl (hb hby at_223) rfl (feq hc223).2 (by decide) (by decide) k) ?_
        refine own_step (B := T64.setTop (mkF m 240 #[.val (.int p0), .val (.int p1), .val (.int p2), .val (.int p3), .val (.int p4), .val (.int p5), .val (.ref ss), .val (.int (1 : Int32)), .val (.int v15), .val (.int c0), .unset, .unset, .unset, .unset] [(.int (0 : Int32))])) (fun t k => XS.iconst X64.here hx rfl (hb hby at_239) k) ?_
        try simp only [if_neg hc223] at hJ
        exact hJ _ _ X64 e64 N0
    refine J66 ?_
    clear J66
    intro T68 ls68 X68 e68 N0
    obtain ⟨c1, e_c1⟩ : ∃ z, z = (if (((p3.toUInt32 >>> ((1 : Int32) &&& 31).toUInt32).toInt32) &&& (1 : Int32)) = (1 : Int32) then (1 : Int32) else (0 : Int32)) := ⟨_, rfl⟩
    rw [← e_c1]
    refine own_step (B := T68.setTop (mkF m 242 #[.val (.int p0), .val (.int p1), .val (.int p2), .val (.int p3), .val (.int p4), .val (.int p5), .val (.ref ss), .val (.int (1 : Int32)), .val (.int v15), .val (.int c0), .val (.int c1), .unset, .unset, .unset] [])) (fun t k => XS.istore X68.here hx rfl (hb hby at_240) rfl (l' := #[.val (.int p0), .val (.int p1), .val (.int p2), .val (.int p3), .val (.int p4), .val (.int p5), .val (.ref ss), .val (.int (1 : Int32)), .val (.int v15), .val (.int c0), .val (.int c1), .unset, .unset, .unset]) rfl k) ?_
    refine own_step (B := T68.setTop (mkF m 244 #[.val (.int p0), .val (.int p1), .val (.int p2), .val (.int p3), .val (.int p4), .val (.int p5), .val (.ref ss), .val (.int (1 : Int32)), .val (.int v15), .val (.int c0), .val (.int c1), .unset, .unset, .unset] [(.ref ss)])) (fun t k => XS.aload X68.here hx rfl (hb hby at_242) rfl rfl k) ?_
    refine own_step (B := T68.setTop (mkF m 246 #[.val (.int p0), .val (.int p1), .val (.int p2), .val (.int p3), .val (.int p4), .val (.int p5), .val (.ref ss), .val (.int (1 : Int32)), .val (.int v15), .val (.int c0), .val (.int c1), .unset, .unset, .unset] [(.int (6 : Int32)), (.ref ss)])) (fun t k => XS.bipush X68.here hx rfl (hb hby at_244) k) ?_
    have Vo_69 := V_ss
    obtain ⟨cl_69, Ar_69, q_69, S_69, M_69, H_69, G_69⟩ := Vo_69
    refine own_step (B := T68.setTop (mkF m 247 #[.val (.int p0), .val (.int p1), .val (.int p2), .val (.int p3), .val (.int p4), .val (.int p5), .val (.ref ss), .val (.int (1 : Int32)), .val (.int v15), .val (.int c0), .val (.int c1), .unset, .unset, .unset] [(.int (((p3.toUInt32 >>> ((2 : Int32) &&& 31).toUInt32).toInt32) &&& (1 : Int32)))])) (fun t k => X68.iaload hx (j := (6 : Int32)) (v := (.int (((p3.toUInt32 >>> ((2 : Int32) &&& 31).toUInt32).toInt32) &&& (1 : Int32)))) (by rw [e68]; exact Ar_69.1) (State.isArrayOf_alike hZ.alike Ar_69.2.1) Ar_69.2.2 (inb_of S_69 ⟨by decide, by decide⟩) (Has.at H_69 (inb_of S_69 ⟨by decide, by decide⟩) rfl) (g := (mkF m 246 #[.val (.int p0), .val (.int p1), .val (.int p2), .val (.int p3), .val (.int p4), .val (.int p5), .val (.ref ss), .val (.int (1 : Int32)), .val (.int v15), .val (.int c0), .val (.int c1), .unset, .unset, .unset] [(.int (6 : Int32)), (.ref ss)])) rfl rfl (hb hby at_246) t k) ?_
    refine own_step (B := T68.setTop (mkF m 248 #[.val (.int p0), .val (.int p1), .val (.int p2), .val (.int p3), .val (.int p4), .val (.int p5), .val (.ref ss), .val (.int (1 : Int32)), .val (.int v15), .val (.int c0), .val (.int c1), .unset, .unset, .unset] [(.int (1 : Int32)), (.int (((p3.toUInt32 >>> ((2 : Int32) &&& 31).toUInt32).toInt32) &&& (1 : Int32)))])) (fun t k => XS.iconst X68.here hx rfl (hb hby at_247) k) ?_
    have J70 : (∀ (T' : State) (ls' : List Loc), Stand p l e room_1 s m #[(.int p0), (.int p1), (.int p2), (.int p3), (.int p4), (.int p5)] below meth c T' ls' 1 12 → T'.heap = h41 → Fr n0 ls' → own_G p.tables e below s (QQ_rm0 Z p0 p1 p2 p3 p4 p5 h0 n0) room_1.cells room_1.slots (T'.setTop (mkF m 266 #[.val (.int p0), .val (.int p1), .val (.int p2), .val (.int p3), .val (.int p4), .val (.int p5), .val (.ref ss), .val (.int (1 : Int32)), .val (.int v15), .val (.int c0), .val (.int c1), .unset, .unset, .unset] [(.int (if (((p3.toUInt32 >>> ((2 : Int32) &&& 31).toUInt32).toInt32) &&& (1 : Int32)) = (1 : Int32) then (if v25 = v15 then (1 : Int32) else (0 : Int32)) else (0 : Int32)))]))) → own_G p.tables e below s (QQ_rm0 Z p0 p1 p2 p3 p4 p5 h0 n0) room_1.cells room_1.slots (T68.setTop (mkF m 248 #[.val (.int p0), .val (.int p1), .val (.int p2), .val (.int p3), .val (.int p4), .val (.int p5), .val (.ref ss), .val (.int (1 : Int32)), .val (.int v15), .val (.int c0), .val (.int c1), .unset, .unset, .unset] [(.int (1 : Int32)), (.int (((p3.toUInt32 >>> ((2 : Int32) &&& 31).toUInt32).toInt32) &&& (1 : Int32)))])) := by
      intro hJ
      by_cases hc248 : (((p3.toUInt32 >>> ((2 : Int32) &&& 31).toUInt32).toInt32) &&& (1 : Int32)) = (1 : Int32)
      · skip
        refine own_step (B := T68.setTop (mkF m 251 #[.val (.int p0), .val (.int p1), .val (.int p2), .val (.int p3), .val (.int p4), .val (.int p5), .val (.ref ss), .val (.int (1 : Int32)), .val (.int v15), .val (.int c0), .val (.int c1), .unset, .unset, .unset] [])) (fun t k => XS.icmpNo X68.here hx rfl (hb hby at_248) rfl (teq hc248).2 k) ?_
        refine own_step (B := T68.setTop (mkF m 253 #[.val (.int p0), .val (.int p1), .val (.int p2), .val (.int p3), .val (.int p4), .val (.int p5), .val (.ref ss), .val (.int (1 : Int32)), .val (.int v15), .val (.int c0), .val (.int c1), .unset, .unset, .unset] [(.ref ss)])) (fun t k => XS.aload X68.here hx rfl (hb hby at_251) rfl rfl k) ?_
        refine own_step (B := T68.setTop (mkF m 255 #[.val (.int p0), .val (.int p1), .val (.int p2), .val (.int p3), .val (.int p4), .val (.int p5), .val (.ref ss), .val (.int (1 : Int32)), .val (.int v15), .val (.int c0), .val (.int c1), .unset, .unset, .unset] [(.int (7 : Int32)), (.ref ss)])) (fun t k => XS.bipush X68.here hx rfl (hb hby at_253) k) ?_
        have Vo_71 := V_ss
        obtain ⟨cl_71, Ar_71, q_71, S_71, M_71, H_71, G_71⟩ := Vo_71
        refine own_step (B := T68.setTop (mkF m 256 #[.val (.int p0), .val (.int p1), .val (.int p2), .val (.int p3), .val (.int p4), .val (.int p5), .val (.ref ss), .val (.int (1 : Int32)), .val (.int v15), .val (.int c0), .val (.int c1), .unset, .unset, .unset] [(.int v25)])) (fun t k => X68.iaload hx (j := (7 : Int32)) (v := (.int v25)) (by rw [e68]; exact Ar_71.1) (State.isArrayOf_alike hZ.alike Ar_71.2.1) Ar_71.2.2 (inb_of S_71 ⟨by decide, by decide⟩) (Has.at H_71 (inb_of S_71 ⟨by decide, by decide⟩) rfl) (g := (mkF m 255 #[.val (.int p0), .val (.int p1), .val (.int p2), .val (.int p3), .val (.int p4), .val (.int p5), .val (.ref ss), .val (.int (1 : Int32)), .val (.int v15), .val (.int c0), .val (.int c1), .unset, .unset, .unset] [(.int (7 : Int32)), (.ref ss)])) rfl rfl (hb hby at_255) t k) ?_
        refine own_step (B := T68.setTop (mkF m 258 #[.val (.int p0), .val (.int p1), .val (.int p2), .val (.int p3), .val (.int p4), .val (.int p5), .val (.ref ss), .val (.int (1 : Int32)), .val (.int v15), .val (.int c0), .val (.int c1), .unset, .unset, .unset] [(.int v15), (.int v25)])) (fun t k => XS.iload X68.here hx rfl (hb hby at_256) rfl k) ?_
        by_cases hc258 : v25 = v15
        · skip
          refine own_step (B := T68.setTop (mkF m 261 #[.val (.int p0), .val (.int p1), .val (.int p2), .val (.int p3), .val (.int p4), .val (.int p5), .val (.ref ss), .val (.int (1 : Int32)), .val (.int v15), .val (.int c0), .val (.int c1), .unset, .unset, .unset] [])) (fun t k => XS.icmpNo X68.here hx rfl (hb hby at_258) rfl (teq hc258).2 k) ?_
          refine own_step (B := T68.setTop (mkF m 262 #[.val (.int p0), .val (.int p1), .val (.int p2), .val (.int p3), .val (.int p4), .val (.int p5), .val (.ref ss), .val (.int (1 : Int32)), .val (.int v15), .val (.int c0), .val (.int c1), .unset, .unset, .unset] [(.int (1 : Int32))])) (fun t k => XS.iconst X68.here hx rfl (hb hby at_261) k) ?_
          refine own_step (B := T68.setTop (mkF m 266 #[.val (.int p0), .val (.int p1), .val (.int p2), .val (.int p3), .val (.int p4), .val (.int p5), .val (.ref ss), .val (.int (1 : Int32)), .val (.int v15), .val (.int c0), .val (.int c1), .unset, .unset, .unset] [(.int (1 : Int32))])) (fun t k => XS.goto X68.here hx rfl (pc0 := 262) (pc' := 266) rfl (hb hby at_262) (by decide) (by decide) k) ?_
          try simp only [if_pos hc248, if_pos hc258] at hJ
          exact hJ _ _ X68 e68 N0
        · skip
          refine own_step (B := T68.setTop (mkF m 265 #[.val (.int p0), .val (.int p1), .val (.int p2), .val (.int p3), .val (.int p4), .val (.int p5), .val (.ref ss), .val (.int (1 : Int32)), .val (.int v15), .val (.int c0), .val (.int c1), .unset, .unset, .unset] [])) (fun t k => XS.icmpYes X68.here hx rfl (pc0 := 258) (pc' := 265) rfl (hb hby at_258) rfl (feq hc258).2 (by decide) (by decide) k) ?_
          refine own_step (B := T68.setTop (mkF m 266 #[.val (.int p0), .val (.int p1), .val (.int p2), .val (.int p3), .val (.int p4), .val (.int p5), .val (.ref ss), .val (.int (1 : Int32)), .val (.int v15), .val (.int c0), .val (.int c1), .unset, .unset, .unset] [(.int (0 : Int32))])) (fun t k => XS.iconst X68.here hx rfl (hb hby at_265) k) ?_
          try simp only [if_pos hc248, if_neg hc258] at hJ
          exact hJ _ _ X68 e68 N0
      · skip
        refine own_step (B := T68.setTop (mkF m 265 #[.val (.int p0), .val (.int p1), .val (.int p2), .val (.int p3), .val (.int p4), .val (.int p5), .val (.ref ss), .val (.int (1 : Int32)), .val (.int v15), .val (.int c0), .val (.int c1), .unset, .unset, .unset] [])) (fun t k => XS.icmpYes X68.here hx rfl (pc0 := 248) (pc' := 265) rfl (hb hby at_248) rfl (feq hc248).2 (by decide) (by decide) k) ?_
        refine own_step (B := T68.setTop (mkF m 266 #[.val (.int p0), .val (.int p1), .val (.int p2), .val (.int p3), .val (.int p4), .val (.int p5), .val (.ref ss), .val (.int (1 : Int32)), .val (.int v15), .val (.int c0), .val (.int c1), .unset, .unset, .unset] [(.int (0 : Int32))])) (fun t k => XS.iconst X68.here hx rfl (hb hby at_265) k) ?_
        try simp only [if_neg hc248] at hJ
        exact hJ _ _ X68 e68 N0
    refine J70 ?_
    clear J70
    intro T72 ls72 X72 e72 N0
    obtain ⟨c2, e_c2⟩ : ∃ z, z = (if (((p3.toUInt32 >>> ((2 : Int32) &&& 31).toUInt32).toInt32) &&& (1 : Int32)) = (1 : Int32) then (if v25 = v15 then (1 : Int32) else (0 : Int32)) else (0 : Int32)) := ⟨_, rfl⟩
    rw [← e_c2]
    refine own_step (B := T72.setTop (mkF m 268 #[.val (.int p0), .val (.int p1), .val (.int p2), .val (.int p3), .val (.int p4), .val (.int p5), .val (.ref ss), .val (.int (1 : Int32)), .val (.int v15), .val (.int c0), .val (.int c1), .val (.int c2), .unset, .unset] [])) (fun t k => XS.istore X72.here hx rfl (hb hby at_266) rfl (l' := #[.val (.int p0), .val (.int p1), .val (.int p2), .val (.int p3), .val (.int p4), .val (.int p5), .val (.ref ss), .val (.int (1 : Int32)), .val (.int v15), .val (.int c0), .val (.int c1), .val (.int c2), .unset, .unset]) rfl k) ?_
    refine own_step (B := T72.setTop (mkF m 270 #[.val (.int p0), .val (.int p1), .val (.int p2), .val (.int p3), .val (.int p4), .val (.int p5), .val (.ref ss), .val (.int (1 : Int32)), .val (.int v15), .val (.int c0), .val (.int c1), .val (.int c2), .unset, .unset] [(.int (1 : Int32))])) (fun t k => XS.iload X72.here hx rfl (hb hby at_268) rfl k) ?_
    have J73 : (∀ (T' : State) (ls' : List Loc), Stand p l e room_1 s m #[(.int p0), (.int p1), (.int p2), (.int p3), (.int p4), (.int p5)] below meth c T' ls' 1 12 → T'.heap = h41 → Fr n0 ls' → own_G p.tables e below s (QQ_rm0 Z p0 p1 p2 p3 p4 p5 h0 n0) room_1.cells room_1.slots (T'.setTop (mkF m 305 #[.val (.int p0), .val (.int p1), .val (.int p2), .val (.int p3), .val (.int p4), .val (.int p5), .val (.ref ss), .val (.int (1 : Int32)), .val (.int v15), .val (.int c0), .val (.int c1), .val (.int c2), .unset, .unset] [(.int (if c0 = (0 : Int32) then (1 : Int32) else (0 : Int32)))]))) → own_G p.tables e below s (QQ_rm0 Z p0 p1 p2 p3 p4 p5 h0 n0) room_1.cells room_1.slots (T72.setTop (mkF m 270 #[.val (.int p0), .val (.int p1), .val (.int p2), .val (.int p3), .val (.int p4), .val (.int p5), .val (.ref ss), .val (.int (1 : Int32)), .val (.int v15), .val (.int c0), .val (.int c1), .val (.int c2), .unset, .unset] [(.int (1 : Int32))])) := by
      intro hJ
      refine own_step (B := T72.setTop (mkF m 273 #[.val (.int p0), .val (.int p1), .val (.int p2), .val (.int p3), .val (.int p4), .val (.int p5), .val (.ref ss), .val (.int (1 : Int32)), .val (.int v15), .val (.int c0), .val (.int c1), .val (.int c2), .unset, .unset] [])) (fun t k => XS.ifNo X72.here hx rfl (hb hby at_270) rfl ((if0 _ _).trans (tlt (by decide)).2.2.2) k) ?_
      refine own_step (B := T72.setTop (mkF m 275 #[.val (.int p0), .val (.int p1), .val (.int p2), .val (.int p3), .val (.int p4), .val (.int p5), .val (.ref ss), .val (.int (1 : Int32)), .val (.int v15), .val (.int c0), .val (.int c1), .val (.int c2), .unset, .unset] [(.int c0)])) (fun t k => XS.iload X72.here hx rfl (hb hby at_273) rfl k) ?_
      by_cases hc275 : c0 = (0 : Int32)
      · skip
        refine own_step (B := T72.setTop (mkF m 278 #[.val (.int p0), .val (.int p1), .val (.int p2), .val (.int p3), .val (.int p4), .val (.int p5), .val (.ref ss), .val (.int (1 : Int32)), .val (.int v15), .val (.int c0), .val (.int c1), .val (.int c2), .unset, .unset] [])) (fun t k => XS.ifNo X72.here hx rfl (hb hby at_275) rfl ((if0 _ _).trans (teq hc275).2) k) ?_
        refine own_step (B := T72.setTop (mkF m 280 #[.val (.int p0), .val (.int p1), .val (.int p2), .val (.int p3), .val (.int p4), .val (.int p5), .val (.ref ss), .val (.int (1 : Int32)), .val (.int v15), .val (.int c0), .val (.int c1), .val (.int c2), .unset, .unset] [(.int (1 : Int32))])) (fun t k => XS.iload X72.here hx rfl (hb hby at_278) rfl k) ?_
        refine own_step (B := T72.setTop (mkF m 281 #[.val (.int p0), .val (.int p1), .val (.int p2), .val (.int p3), .val (.int p4), .val (.int p5), .val (.ref ss), .val (.int (1 : Int32)), .val (.int v15), .val (.int c0), .val (.int c1), .val (.int c2), .unset, .unset] [(.int (1 : Int32)), (.int (1 : Int32))])) (fun t k => XS.iconst X72.here hx rfl (hb hby at_280) k) ?_
        refine own_step (B := T72.setTop (mkF m 289 #[.val (.int p0), .val (.int p1), .val (.int p2), .val (.int p3), .val (.int p4), .val (.int p5), .val (.ref ss), .val (.int (1 : Int32)), .val (.int v15), .val (.int c0), .val (.int c1), .val (.int c2), .unset, .unset] [])) (fun t k => XS.icmpYes X72.here hx rfl (pc0 := 281) (pc' := 289) rfl (hb hby at_281) rfl (flt (by decide)).2.2.2 (by decide) (by decide) k) ?_
        refine own_step (B := T72.setTop (mkF m 291 #[.val (.int p0), .val (.int p1), .val (.int p2), .val (.int p3), .val (.int p4), .val (.int p5), .val (.ref ss), .val (.int (1 : Int32)), .val (.int v15), .val (.int c0), .val (.int c1), .val (.int c2), .unset, .unset] [(.int (1 : Int32))])) (fun t k => XS.iload X72.here hx rfl (hb hby at_289) rfl k) ?_
        refine own_step (B := T72.setTop (mkF m 292 #[.val (.int p0), .val (.int p1), .val (.int p2), .val (.int p3), .val (.int p4), .val (.int p5), .val (.ref ss), .val (.int (1 : Int32)), .val (.int v15), .val (.int c0), .val (.int c1), .val (.int c2), .unset, .unset] [(.int (2 : Int32)), (.int (1 : Int32))])) (fun t k => XS.iconst X72.here hx rfl (hb hby at_291) k) ?_
        refine own_step (B := T72.setTop (mkF m 300 #[.val (.int p0), .val (.int p1), .val (.int p2), .val (.int p3), .val (.int p4), .val (.int p5), .val (.ref ss), .val (.int (1 : Int32)), .val (.int v15), .val (.int c0), .val (.int c1), .val (.int c2), .unset, .unset] [])) (fun t k => XS.icmpYes X72.here hx rfl (pc0 := 292) (pc' := 300) rfl (hb hby at_292) rfl (flt (by decide)).2.2.2 (by decide) (by decide) k) ?_
        refine own_step (B := T72.setTop (mkF m 301 #[.val (.int p0), .val (.int p1), .val (.int p2), .val (.int p3), .val (.int p4), .val (.int p5), .val (.ref ss), .val (.int (1 : Int32)), .val (.int v15), .val (.int c0), .val (.int c1), .val (.int c2), .unset, .unset] [(.int (1 : Int32))])) (fun t k => XS.iconst X72.here hx rfl (hb hby at_300) k) ?_
        refine own_step (B := T72.setTop (mkF m 305 #[.val (.int p0), .val (.int p1), .val (.int p2), .val (.int p3), .val (.int p4), .val (.int p5), .val (.ref ss), .val (.int (1 : Int32)), .val (.int v15), .val (.int c0), .val (.int c1), .val (.int c2), .unset, .unset] [(.int (1 : Int32))])) (fun t k => XS.goto X72.here hx rfl (pc0 := 301) (pc' := 305) rfl (hb hby at_301) (by decide) (by decide) k) ?_
        try simp only [if_pos hc275] at hJ
        exact hJ _ _ X72 e72 N0
      · skip
        refine own_step (B := T72.setTop (mkF m 304 #[.val (.int p0), .val (.int p1), .val (.int p2), .val (.int p3), .val (.int p4), .val (.int p5), .val (.ref ss), .val (.int (1 : Int32)), .val (.int v15), .val (.int c0), .val (.int c1), .val (.int c2), .unset, .unset] [])) (fun t k => XS.ifYes X72.here hx rfl (pc0 := 275) (pc' := 304) rfl (hb hby at_275) rfl ((if0 _ _).trans (feq hc275).2) (by decide) (by decide) k) ?_
        refine own_step (B := T72.setTop (mkF m 305 #[.val (.int p0), .val (.int p1), .val (.int p2), .val (.int p3), .val (.int p4), .val (.int p5), .val (.ref ss), .val (.int (1 : Int32)), .val (.int v15), .val (.int c0), .val (.int c1), .val (.int c2), .unset, .unset] [(.int (0 : Int32))])) (fun t k => XS.iconst X72.here hx rfl (hb hby at_304) k) ?_
        try simp only [if_neg hc275] at hJ
        exact hJ _ _ X72 e72 N0
    refine J73 ?_
    clear J73
    intro T74 ls74 X74 e74 N0
    obtain ⟨ex, e_ex⟩ : ∃ z, z = (if c0 = (0 : Int32) then (1 : Int32) else (0 : Int32)) := ⟨_, rfl⟩
    rw [← e_ex]
    refine own_step (B := T74.setTop (mkF m 307 #[.val (.int p0), .val (.int p1), .val (.int p2), .val (.int p3), .val (.int p4), .val (.int p5), .val (.ref ss), .val (.int (1 : Int32)), .val (.int v15), .val (.int c0), .val (.int c1), .val (.int c2), .val (.int ex), .unset] [])) (fun t k => XS.istore X74.here hx rfl (hb hby at_305) rfl (l' := #[.val (.int p0), .val (.int p1), .val (.int p2), .val (.int p3), .val (.int p4), .val (.int p5), .val (.ref ss), .val (.int (1 : Int32)), .val (.int v15), .val (.int c0), .val (.int c1), .val (.int c2), .val (.int ex), .unset]) rfl k) ?_
    obtain ⟨T75, h75, X75, e75, E75, A75, D75, -, st75⟩ := newO X74 hx hZ hown (hw _ (List.mem_of_getElem? (i := 5) rfl)) (hw _ (List.mem_of_getElem? (i := 6) rfl)) (hw _ (List.mem_of_getElem? (i := 7) rfl)) e74 (g := (mkF m 307 #[.val (.int p0), .val (.int p1), .val (.int p2), .val (.int p3), .val (.int p4), .val (.int p5), .val (.ref ss), .val (.int (1 : Int32)), .val (.int v15), .val (.int c0), .val (.int c1), .val (.int c2), .val (.int ex), .unset] [])) rfl (hb hby at_307) (by decide) (by decide)
    obtain ⟨tt, g75⟩ : ∃ z, z = h41.size := ⟨_, rfl⟩
    rw [← g75] at A75 D75 st75
    have g_tt : n0 ≤ tt := Nat.le_trans Z0 (Nat.le_of_eq g75.symm)
    have ne_ss_tt : ss ≠ tt := Nat.ne_of_lt (Nat.lt_of_lt_of_le V_ss.lt (Nat.le_of_eq g75.symm))
    have V_ss := V_ss.ext E75
    have Z0 := Nat.le_trans Z0 E75.1
    have E_tt := A75
    have F_index_tt : Fld Z h75 tt "com/example/tightrope/tightrope/history/Transaction" "index" "J" (.long (0 : Int64)) := D75 (Or.inr (hw _ (List.mem_of_getElem? (i := 21) rfl))) (ty := .long) (by decide)
    have F_invoke_tt : Fld Z h75 tt "com/example/tightrope/tightrope/history/Transaction" "invoke" "I" (.int (0 : Int32)) := D75 (Or.inr (hw _ (List.mem_of_getElem? (i := 23) rfl))) (ty := .int) (by decide)
    have F_completion_tt : Fld Z h75 tt "com/example/tightrope/tightrope/history/Transaction" "completion" "I" (.int (0 : Int32)) := D75 (Or.inr (hw _ (List.mem_of_getElem? (i := 25) rfl))) (ty := .int) (by decide)
    have F_required_tt : Fld Z h75 tt "com/example/tightrope/tightrope/history/Transaction" "required" "Z" (.int (0 : Int32)) := D75 (Or.inr (hw _ (List.mem_of_getElem? (i := 27) rfl))) (ty := .boolean) (by decide)
    have F_steps_tt : Fld Z h75 tt "com/example/tightrope/tightrope/history/Transaction" "steps" "[I" .null := D75 (Or.inr (hw _ (List.mem_of_getElem? (i := 29) rfl))) (ty := (.array .int)) (by decide)
    refine own_step (B := T75.setTop (mkF m 310 #[.val (.int p0), .val (.int p1), .val (.int p2), .val (.int p3), .val (.int p4), .val (.int p5), .val (.ref ss), .val (.int (1 : Int32)), .val (.int v15), .val (.int c0), .val (.int c1), .val (.int c2), .val (.int ex), .unset] [(.ref tt)])) (fun t k => st75 t k) ?_
    refine own_step (B := T75.setTop (mkF m 311 #[.val (.int p0), .val (.int p1), .val (.int p2), .val (.int p3), .val (.int p4), .val (.int p5), .val (.ref ss), .val (.int (1 : Int32)), .val (.int v15), .val (.int c0), .val (.int c1), .val (.int c2), .val (.int ex), .unset] [(.ref tt), (.ref tt)])) (fun t k => XS.dup X75.here hx rfl (hb hby at_310) rfl rfl k) ?_
    refine own_step (B := T75.setTop (mkF m 312 #[.val (.int p0), .val (.int p1), .val (.int p2), .val (.int p3), .val (.int p4), .val (.int p5), .val (.ref ss), .val (.int (1 : Int32)), .val (.int v15), .val (.int c0), .val (.int c1), .val (.int c2), .val (.int ex), .unset] [(.long (0 : Int64)), (.ref tt), (.ref tt)])) (fun t k => XS.lconst X75.here hx rfl (hb hby at_311) k) ?_
    refine own_step (B := T75.setTop (mkF m 313 #[.val (.int p0), .val (.int p1), .val (.int p2), .val (.int p3), .val (.int p4), .val (.int p5), .val (.ref ss), .val (.int (1 : Int32)), .val (.int v15), .val (.int c0), .val (.int c1), .val (.int c2), .val (.int ex), .unset] [(.int (1 : Int32)), (.long (0 : Int64)), (.ref tt), (.ref tt)])) (fun t k => XS.iconst X75.here hx rfl (hb hby at_312) k) ?_
    refine own_step (B := T75.setTop (mkF m 315 #[.val (.int p0), .val (.int p1), .val (.int p2), .val (.int p3), .val (.int p4), .val (.int p5), .val (.ref ss), .val (.int (1 : Int32)), .val (.int v15), .val (.int c0), .val (.int c1), .val (.int c2), .val (.int ex), .unset] [(.int (2147483647 : Int32)), (.int (1 : Int32)), (.long (0 : Int64)), (.ref tt), (.ref tt)])) (fun t k => X75.ldcInt hx hown (mvT hZ (hw _ (List.mem_of_getElem? (i := 8) rfl))) (g := (mkF m 313 #[.val (.int p0), .val (.int p1), .val (.int p2), .val (.int p3), .val (.int p4), .val (.int p5), .val (.ref ss), .val (.int (1 : Int32)), .val (.int v15), .val (.int c0), .val (.int c1), .val (.int c2), .val (.int ex), .unset] [(.int (1 : Int32)), (.long (0 : Int64)), (.ref tt), (.ref tt)])) rfl (hb hby at_313) t k) ?_
    refine own_step (B := T75.setTop (mkF m 316 #[.val (.int p0), .val (.int p1), .val (.int p2), .val (.int p3), .val (.int p4), .val (.int p5), .val (.ref ss), .val (.int (1 : Int32)), .val (.int v15), .val (.int c0), .val (.int c1), .val (.int c2), .val (.int ex), .unset] [(.int (1 : Int32)), (.int (2147483647 : Int32)), (.int (1 : Int32)), (.long (0 : Int64)), (.ref tt), (.ref tt)])) (fun t k => XS.iconst X75.here hx rfl (hb hby at_315) k) ?_
    refine own_step (B := T75.setTop (mkF m 318 #[.val (.int p0), .val (.int p1), .val (.int p2), .val (.int p3), .val (.int p4), .val (.int p5), .val (.ref ss), .val (.int (1 : Int32)), .val (.int v15), .val (.int c0), .val (.int c1), .val (.int c2), .val (.int ex), .unset] [(.ref ss), (.int (1 : Int32)), (.int (2147483647 : Int32)), (.int (1 : Int32)), (.long (0 : Int64)), (.ref tt), (.ref tt)])) (fun t k => XS.aload X75.here hx rfl (hb hby at_316) rfl rfl k) ?_
    obtain ⟨_, _, ⟨T76, L76, k76, n76⟩, -, X76, ⟨Lc76, hQ76, l76, y76, z76⟩, st76⟩ := X75.specialBack hx (y := (⟨"com/example/tightrope/tightrope/history/Transaction", "<init>", "(JIIZ[I)V"⟩ : MethodName)) rfl hown (mvT hZ (hw _ (List.mem_of_getElem? (i := 9) rfl))) (mvT hZ (hw _ (List.mem_of_getElem? (i := 10) rfl))) (mvT hZ (hw _ (List.mem_of_getElem? (i := 11) rfl))) (by decide) (backOf (W := 1) (rm2 l Z a0 hw [] tt (0 : Int64) (1 : Int32) (2147483647 : Int32) (1 : Int32) ss  h75 n0 Z0 E_tt g_tt F_index_tt F_invoke_tt F_completion_tt F_required_tt F_steps_tt) hZ (hw _ (List.mem_of_getElem? (i := 11) rfl)) (hw _ (List.mem_of_getElem? (i := 7) rfl)) (by decide) (by decide)) (g := (mkF m 318 #[.val (.int p0), .val (.int p1), .val (.int p2), .val (.int p3), .val (.int p4), .val (.int p5), .val (.ref ss), .val (.int (1 : Int32)), .val (.int v15), .val (.int c0), .val (.int c1), .val (.int c2), .val (.int ex), .unset] [(.ref ss), (.int (1 : Int32)), (.int (2147483647 : Int32)), (.int (1 : Int32)), (.long (0 : Int64)), (.ref tt), (.ref tt)])) rfl (by rw [hml]; rfl) (Steps.refl _) (a := tt) (argsL := [(.long (0 : Int64)), (.int (1 : Int32)), (.int (2147483647 : Int32)), (.int (1 : Int32)), (.ref ss)]) (rest := [(.ref tt)]) (lenOf pd_2 rfl) rfl (by show 2 * 0 + _ ≤ _; exact Nat.le_of_eq rfl) (hb hby at_318) (fun _ _ => ⟨rfl, e75, (by decide : 2 + 0 ≤ _), (by decide : 17 + 0 ≤ _)⟩)
    dsimp only [Pt.U, Pt.locs, Pt.cells, Pt.slots] at X76 l76 y76 z76 st76 hQ76
    subst l76 y76 z76
    obtain ⟨rfl, N76q, K76, G76⟩ := hQ76
    have N0 := Fr.app N0 N76q
    have V_ss := V_ss.keep K76 (ninS ne_ss_tt nin0)
    have E_tt := E_tt.keep K76
    have Z0 := Nat.le_trans Z0 K76.1
    have F_steps_tt := G76
    refine own_step (B := T76.setTop (mkF m 321 #[.val (.int p0), .val (.int p1), .val (.int p2), .val (.int p3), .val (.int p4), .val (.int p5), .val (.ref ss), .val (.int (1 : Int32)), .val (.int v15), .val (.int c0), .val (.int c1), .val (.int c2), .val (.int ex), .unset] [(.ref tt)])) (fun t k => st76.trans k) ?_
    refine own_step (B := T76.setTop (mkF m 323 #[.val (.int p0), .val (.int p1), .val (.int p2), .val (.int p3), .val (.int p4), .val (.int p5), .val (.ref ss), .val (.int (1 : Int32)), .val (.int v15), .val (.int c0), .val (.int c1), .val (.int c2), .val (.int ex), .val (.ref tt)] [])) (fun t k => XS.astore X76.here hx rfl (hb hby at_321) rfl rfl (l' := #[.val (.int p0), .val (.int p1), .val (.int p2), .val (.int p3), .val (.int p4), .val (.int p5), .val (.ref ss), .val (.int (1 : Int32)), .val (.int v15), .val (.int c0), .val (.int c1), .val (.int c2), .val (.int ex), .val (.ref tt)]) rfl k) ?_
    refine own_step (B := T76.setTop (mkF m 325 #[.val (.int p0), .val (.int p1), .val (.int p2), .val (.int p3), .val (.int p4), .val (.int p5), .val (.ref ss), .val (.int (1 : Int32)), .val (.int v15), .val (.int c0), .val (.int c1), .val (.int c2), .val (.int ex), .val (.ref tt)] [(.ref tt)])) (fun t k => XS.aload X76.here hx rfl (hb hby at_323) rfl rfl k) ?_
    refine own_step (B := T76.setTop (mkF m 326 #[.val (.int p0), .val (.int p1), .val (.int p2), .val (.int p3), .val (.int p4), .val (.int p5), .val (.ref ss), .val (.int (1 : Int32)), .val (.int v15), .val (.int c0), .val (.int c1), .val (.int c2), .val (.int ex), .val (.ref tt)] [(.int (3 : Int32)), (.ref tt)])) (fun t k => XS.iconst X76.here hx rfl (hb hby at_325) k) ?_
    refine own_step (B := T76.setTop (mkF m 328 #[.val (.int p0), .val (.int p1), .val (.int p2), .val (.int p3), .val (.int p4), .val (.int p5), .val (.ref ss), .val (.int (1 : Int32)), .val (.int v15), .val (.int c0), .val (.int c1), .val (.int c2), .val (.int ex), .val (.ref tt)] [(.int (1 : Int32)), (.int (3 : Int32)), (.ref tt)])) (fun t k => XS.iload X76.here hx rfl (hb hby at_326) rfl k) ?_
    refine own_step (B := T76.setTop (mkF m 329 #[.val (.int p0), .val (.int p1), .val (.int p2), .val (.int p3), .val (.int p4), .val (.int p5), .val (.ref ss), .val (.int (1 : Int32)), .val (.int v15), .val (.int c0), .val (.int c1), .val (.int c2), .val (.int ex), .val (.ref tt)] [(.int (3 : Int32)), (.ref tt)])) (fun t k => XS.imul X76.here hx rfl (hb hby at_328) rfl k) ?_
    obtain ⟨cq77, kq77, q77a, q77b, q77c⟩ := isOf hZ rfl E_tt
    obtain ⟨_, _, ⟨T77, L77, k77, n77⟩, -, X77, ⟨Lc77, hQ77, l77, y77, z77⟩, st77⟩ := X76.virtualBack hx (y := (⟨"com/example/tightrope/tightrope/history/Transaction", "readsFromOutside", "(I)Z"⟩ : MethodName)) (z := (⟨"com/example/tightrope/tightrope/history/Transaction", "readsFromOutside", "(I)Z"⟩ : MethodName)) hown (mvT hZ (hw _ (List.mem_of_getElem? (i := 30) rfl))) (mvT hZ (hw _ (List.mem_of_getElem? (i := 31) rfl))) (notFace_of_selects (args := #[]) (mvT hZ (hw _ (List.mem_of_getElem? (i := 33) rfl)))) (mvT hZ (hw _ (List.mem_of_getElem? (i := 33) rfl))) (mvT hZ (hw _ (List.mem_of_getElem? (i := 32) rfl))) (by decide) (backOf (W := 0) (rmr1 l Z a0 hw [] tt _ _ _ _ _ _ _ _ _ _ _ _ _ _ T76.heap n0 Z0 F_steps_tt V_ss) hZ (hw _ (List.mem_of_getElem? (i := 34) rfl)) (hw _ (List.mem_of_getElem? (i := 7) rfl)) (by decide) (by decide)) q77a q77c (g := (mkF m 329 #[.val (.int p0), .val (.int p1), .val (.int p2), .val (.int p3), .val (.int p4), .val (.int p5), .val (.ref ss), .val (.int (1 : Int32)), .val (.int v15), .val (.int c0), .val (.int c1), .val (.int c2), .val (.int ex), .val (.ref tt)] [(.int (3 : Int32)), (.ref tt)])) rfl (by rw [hml]; rfl) (Steps.refl _) (argsL := [(.int (3 : Int32))]) (rest := []) (lenOf pd_3 rfl) rfl (by show 2 * 0 + _ ≤ _; exact Nat.le_of_eq rfl) (hb hby at_329) (fun _ _ => ⟨rfl, rfl, (by decide : 2 + 0 ≤ _), (by decide : 17 + 0 ≤ _)⟩)
    dsimp only [Pt.U, Pt.locs, Pt.cells, Pt.slots] at X77 l77 y77 z77 st77 hQ77
    subst l77 y77 z77
    obtain ⟨rfl, N77q, e77⟩ := hQ77
    have N0 := Fr.app N0 N77q
    refine own_step (B := T77.setTop (mkF m 332 #[.val (.int p0), .val (.int p1), .val (.int p2), .val (.int p3), .val (.int p4), .val (.int p5), .val (.ref ss), .val (.int (1 : Int32)), .val (.int v15), .val (.int c0), .val (.int c1), .val (.int c2), .val (.int ex), .val (.ref tt)] [(.int (own_ex1 (own_w (p3 &&& (1 : Int32)) v5 v15)))])) (fun t k => st77.trans k) ?_
    refine own_step (B := T77.setTop (mkF m 334 #[.val (.int p0), .val (.int p1), .val (.int p2), .val (.int p3), .val (.int p4), .val (.int p5), .val (.ref ss), .val (.int (1 : Int32)), .val (.int v15), .val (.int c0), .val (.int c1), .val (.int c2), .val (.int ex), .val (.ref tt)] [(.int ex), (.int (own_ex1 (own_w (p3 &&& (1 : Int32)) v5 v15)))])) (fun t k => XS.iload X77.here hx rfl (hb hby at_332) rfl k) ?_
    refine own_step (B := T77.setTop (mkF m 337 #[.val (.int p0), .val (.int p1), .val (.int p2), .val (.int p3), .val (.int p4), .val (.int p5), .val (.ref ss), .val (.int (1 : Int32)), .val (.int v15), .val (.int c0), .val (.int c1), .val (.int c2), .val (.int ex), .val (.ref tt)] [])) (fun t k => XS.icmpNo X77.here hx rfl (hb hby at_334) rfl (teq (by first | (rw [e_ex, e_c0]; done) | (rw [e_ex, e_c0]; rfl))).2 k) ?_
    refine own_step (B := T77.setTop (mkF m 338 #[.val (.int p0), .val (.int p1), .val (.int p2), .val (.int p3), .val (.int p4), .val (.int p5), .val (.ref ss), .val (.int (1 : Int32)), .val (.int v15), .val (.int c0), .val (.int c1), .val (.int c2), .val (.int ex), .val (.ref tt)] [(.int (1 : Int32))])) (fun t k => XS.iconst X77.here hx rfl (hb hby at_337) k) ?_
    refine own_step (B := T77.setTop (mkF m 342 #[.val (.int p0), .val (.int p1), .val (.int p2), .val (.int p3), .val (.int p4), .val (.int p5), .val (.ref ss), .val (.int (1 : Int32)), .val (.int v15), .val (.int c0), .val (.int c1), .val (.int c2), .val (.int ex), .val (.ref tt)] [(.int (1 : Int32))])) (fun t k => XS.goto X77.here hx rfl (pc0 := 338) (pc' := 342) rfl (hb hby at_338) (by decide) (by decide) k) ?_
    exact own_retN X77 hx hlk (t := .boolean) Bd.returns (by simp) (hb hby at_342) (by decide) (by decide) (by exact ⟨rfl, N0⟩)
  · skip
    refine own_step (B := T41.setTop (mkF m 185 #[.val (.int p0), .val (.int p1), .val (.int p2), .val (.int p3), .val (.int p4), .val (.int p5), .val (.ref ss), .val (.int (2 : Int32)), .unset, .unset, .unset, .unset, .unset, .unset] [(.ref ss)])) (fun t k => XS.aload X41.here hx rfl (hb hby at_183) rfl rfl k) ?_
    refine own_step (B := T41.setTop (mkF m 186 #[.val (.int p0), .val (.int p1), .val (.int p2), .val (.int p3), .val (.int p4), .val (.int p5), .val (.ref ss), .val (.int (2 : Int32)), .unset, .unset, .unset, .unset, .unset, .unset] [(.int (3 : Int32)), (.ref ss)])) (fun t k => XS.iconst X41.here hx rfl (hb hby at_185) k) ?_
    refine own_step (B := T41.setTop (mkF m 188 #[.val (.int p0), .val (.int p1), .val (.int p2), .val (.int p3), .val (.int p4), .val (.int p5), .val (.ref ss), .val (.int (2 : Int32)), .unset, .unset, .unset, .unset, .unset, .unset] [(.int (2 : Int32)), (.int (3 : Int32)), (.ref ss)])) (fun t k => XS.iload X41.here hx rfl (hb hby at_186) rfl k) ?_
    refine own_step (B := T41.setTop (mkF m 189 #[.val (.int p0), .val (.int p1), .val (.int p2), .val (.int p3), .val (.int p4), .val (.int p5), .val (.ref ss), .val (.int (2 : Int32)), .unset, .unset, .unset, .unset, .unset, .unset] [(.int (6 : Int32)), (.ref ss)])) (fun t k => XS.imul X41.here hx rfl (hb hby at_188) rfl k) ?_
    refine own_step (B := T41.setTop (mkF m 190 #[.val (.int p0), .val (.int p1), .val (.int p2), .val (.int p3), .val (.int p4), .val (.int p5), .val (.ref ss), .val (.int (2 : Int32)), .unset, .unset, .unset, .unset, .unset, .unset] [(.int (1 : Int32)), (.int (6 : Int32)), (.ref ss)])) (fun t k => XS.iconst X41.here hx rfl (hb hby at_189) k) ?_
    refine own_step (B := T41.setTop (mkF m 191 #[.val (.int p0), .val (.int p1), .val (.int p2), .val (.int p3), .val (.int p4), .val (.int p5), .val (.ref ss), .val (.int (2 : Int32)), .unset, .unset, .unset, .unset, .unset, .unset] [(.int (7 : Int32)), (.ref ss)])) (fun t k => XS.iadd X41.here hx rfl (hb hby at_190) rfl k) ?_
    have Vo_78 := V_ss
    obtain ⟨cl_78, Ar_78, q_78, S_78, M_78, H_78, G_78⟩ := Vo_78
    refine own_step (B := T41.setTop (mkF m 192 #[.val (.int p0), .val (.int p1), .val (.int p2), .val (.int p3), .val (.int p4), .val (.int p5), .val (.ref ss), .val (.int (2 : Int32)), .unset, .unset, .unset, .unset, .unset, .unset] [(.int v25)])) (fun t k => X41.iaload hx (j := (7 : Int32)) (v := (.int v25)) (by rw [e41]; exact Ar_78.1) (State.isArrayOf_alike hZ.alike Ar_78.2.1) Ar_78.2.2 (inb_of S_78 ⟨by decide, by decide⟩) (Has.at H_78 (inb_of S_78 ⟨by decide, by decide⟩) rfl) (g := (mkF m 191 #[.val (.int p0), .val (.int p1), .val (.int p2), .val (.int p3), .val (.int p4), .val (.int p5), .val (.ref ss), .val (.int (2 : Int32)), .unset, .unset, .unset, .unset, .unset, .unset] [(.int (7 : Int32)), (.ref ss)])) rfl rfl (hb hby at_191) t k) ?_
    refine own_step (B := T41.setTop (mkF m 194 #[.val (.int p0), .val (.int p1), .val (.int p2), .val (.int p3), .val (.int p4), .val (.int p5), .val (.ref ss), .val (.int (2 : Int32)), .val (.int v25), .unset, .unset, .unset, .unset, .unset] [])) (fun t k => XS.istore X41.here hx rfl (hb hby at_192) rfl (l' := #[.val (.int p0), .val (.int p1), .val (.int p2), .val (.int p3), .val (.int p4), .val (.int p5), .val (.ref ss), .val (.int (2 : Int32)), .val (.int v25), .unset, .unset, .unset, .unset, .unset]) rfl k) ?_
    refine own_step (B := T41.setTop (mkF m 196 #[.val (.int p0), .val (.int p1), .val (.int p2), .val (.int p3), .val (.int p4), .val (.int p5), .val (.ref ss), .val (.int (2 : Int32)), .val (.int v25), .unset, .unset, .unset, .unset, .unset] [(.ref ss)])) (fun t k => XS.aload X41.here hx rfl (hb hby at_194) rfl rfl k) ?_
    refine own_step (B := T41.setTop (mkF m 197 #[.val (.int p0), .val (.int p1), .val (.int p2), .val (.int p3), .val (.int p4), .val (.int p5), .val (.ref ss), .val (.int (2 : Int32)), .val (.int v25), .unset, .unset, .unset, .unset, .unset] [(.int (0 : Int32)), (.ref ss)])) (fun t k => XS.iconst X41.here hx rfl (hb hby at_196) k) ?_
    have Vo_79 := V_ss
    obtain ⟨cl_79, Ar_79, q_79, S_79, M_79, H_79, G_79⟩ := Vo_79
    refine own_step (B := T41.setTop (mkF m 198 #[.val (.int p0), .val (.int p1), .val (.int p2), .val (.int p3), .val (.int p4), .val (.int p5), .val (.ref ss), .val (.int (2 : Int32)), .val (.int v25), .unset, .unset, .unset, .unset, .unset] [(.int (p3 &&& (1 : Int32)))])) (fun t k => X41.iaload hx (j := (0 : Int32)) (v := (.int (p3 &&& (1 : Int32)))) (by rw [e41]; exact Ar_79.1) (State.isArrayOf_alike hZ.alike Ar_79.2.1) Ar_79.2.2 (inb_of S_79 ⟨by decide, by decide⟩) (Has.at H_79 (inb_of S_79 ⟨by decide, by decide⟩) rfl) (g := (mkF m 197 #[.val (.int p0), .val (.int p1), .val (.int p2), .val (.int p3), .val (.int p4), .val (.int p5), .val (.ref ss), .val (.int (2 : Int32)), .val (.int v25), .unset, .unset, .unset, .unset, .unset] [(.int (0 : Int32)), (.ref ss)])) rfl rfl (hb hby at_197) t k) ?_
    refine own_step (B := T41.setTop (mkF m 199 #[.val (.int p0), .val (.int p1), .val (.int p2), .val (.int p3), .val (.int p4), .val (.int p5), .val (.ref ss), .val (.int (2 : Int32)), .val (.int v25), .unset, .unset, .unset, .unset, .unset] [(.int (1 : Int32)), (.int (p3 &&& (1 : Int32)))])) (fun t k => XS.iconst X41.here hx rfl (hb hby at_198) k) ?_
    have J80 : (∀ (T' : State) (ls' : List Loc), Stand p l e room_1 s m #[(.int p0), (.int p1), (.int p2), (.int p3), (.int p4), (.int p5)] below meth c T' ls' 1 12 → T'.heap = h41 → Fr n0 ls' → own_G p.tables e below s (QQ_rm0 Z p0 p1 p2 p3 p4 p5 h0 n0) room_1.cells room_1.slots (T'.setTop (mkF m 216 #[.val (.int p0), .val (.int p1), .val (.int p2), .val (.int p3), .val (.int p4), .val (.int p5), .val (.ref ss), .val (.int (2 : Int32)), .val (.int v25), .unset, .unset, .unset, .unset, .unset] [(.int (if (p3 &&& (1 : Int32)) = (1 : Int32) then (if v5 = v25 then (1 : Int32) else (0 : Int32)) else (0 : Int32)))]))) → own_G p.tables e below s (QQ_rm0 Z p0 p1 p2 p3 p4 p5 h0 n0) room_1.cells room_1.slots (T41.setTop (mkF m 199 #[.val (.int p0), .val (.int p1), .val (.int p2), .val (.int p3), .val (.int p4), .val (.int p5), .val (.ref ss), .val (.int (2 : Int32)), .val (.int v25), .unset, .unset, .unset, .unset, .unset] [(.int (1 : Int32)), (.int (p3 &&& (1 : Int32)))])) := by
      intro hJ
      by_cases hc199 : (p3 &&& (1 : Int32)) = (1 : Int32)
      · skip
        refine own_step (B := T41.setTop (mkF m 202 #[.val (.int p0), .val (.int p1), .val (.int p2), .val (.int p3), .val (.int p4), .val (.int p5), .val (.ref ss), .val (.int (2 : Int32)), .val (.int v25), .unset, .unset, .unset, .unset, .unset] [])) (fun t k => XS.icmpNo X41.here hx rfl (hb hby at_199) rfl (teq hc199).2 k) ?_
        refine own_step (B := T41.setTop (mkF m 204 #[.val (.int p0), .val (.int p1), .val (.int p2), .val (.int p3), .val (.int p4), .val (.int p5), .val (.ref ss), .val (.int (2 : Int32)), .val (.int v25), .unset, .unset, .unset, .unset, .unset] [(.ref ss)])) (fun t k => XS.aload X41.here hx rfl (hb hby at_202) rfl rfl k) ?_
        refine own_step (B := T41.setTop (mkF m 205 #[.val (.int p0), .val (.int p1), .val (.int p2), .val (.int p3), .val (.int p4), .val (.int p5), .val (.ref ss), .val (.int (2 : Int32)), .val (.int v25), .unset, .unset, .unset, .unset, .unset] [(.int (1 : Int32)), (.ref ss)])) (fun t k => XS.iconst X41.here hx rfl (hb hby at_204) k) ?_
        have Vo_81 := V_ss
        obtain ⟨cl_81, Ar_81, q_81, S_81, M_81, H_81, G_81⟩ := Vo_81
        refine own_step (B := T41.setTop (mkF m 206 #[.val (.int p0), .val (.int p1), .val (.int p2), .val (.int p3), .val (.int p4), .val (.int p5), .val (.ref ss), .val (.int (2 : Int32)), .val (.int v25), .unset, .unset, .unset, .unset, .unset] [(.int v5)])) (fun t k => X41.iaload hx (j := (1 : Int32)) (v := (.int v5)) (by rw [e41]; exact Ar_81.1) (State.isArrayOf_alike hZ.alike Ar_81.2.1) Ar_81.2.2 (inb_of S_81 ⟨by decide, by decide⟩) (Has.at H_81 (inb_of S_81 ⟨by decide, by decide⟩) rfl) (g := (mkF m 205 #[.val (.int p0), .val (.int p1), .val (.int p2), .val (.int p3), .val (.int p4), .val (.int p5), .val (.ref ss), .val (.int (2 : Int32)), .val (.int v25), .unset, .unset, .unset, .unset, .unset] [(.int (1 : Int32)), (.ref ss)])) rfl rfl (hb hby at_205) t k) ?_
        refine own_step (B := T41.setTop (mkF m 208 #[.val (.int p0), .val (.int p1), .val (.int p2), .val (.int p3), .val (.int p4), .val (.int p5), .val (.ref ss), .val (.int (2 : Int32)), .val (.int v25), .unset, .unset, .unset, .unset, .unset] [(.int v25), (.int v5)])) (fun t k => XS.iload X41.here hx rfl (hb hby at_206) rfl k) ?_
        by_cases hc208 : v5 = v25
        · skip
          refine own_step (B := T41.setTop (mkF m 211 #[.val (.int p0), .val (.int p1), .val (.int p2), .val (.int p3), .val (.int p4), .val (.int p5), .val (.ref ss), .val (.int (2 : Int32)), .val (.int v25), .unset, .unset, .unset, .unset, .unset] [])) (fun t k => XS.icmpNo X41.here hx rfl (hb hby at_208) rfl (teq hc208).2 k) ?_
          refine own_step (B := T41.setTop (mkF m 212 #[.val (.int p0), .val (.int p1), .val (.int p2), .val (.int p3), .val (.int p4), .val (.int p5), .val (.ref ss), .val (.int (2 : Int32)), .val (.int v25), .unset, .unset, .unset, .unset, .unset] [(.int (1 : Int32))])) (fun t k => XS.iconst X41.here hx rfl (hb hby at_211) k) ?_
          refine own_step (B := T41.setTop (mkF m 216 #[.val (.int p0), .val (.int p1), .val (.int p2), .val (.int p3), .val (.int p4), .val (.int p5), .val (.ref ss), .val (.int (2 : Int32)), .val (.int v25), .unset, .unset, .unset, .unset, .unset] [(.int (1 : Int32))])) (fun t k => XS.goto X41.here hx rfl (pc0 := 212) (pc' := 216) rfl (hb hby at_212) (by decide) (by decide) k) ?_
          try simp only [if_pos hc199, if_pos hc208] at hJ
          exact hJ _ _ X41 e41 N0
        · skip
          refine own_step (B := T41.setTop (mkF m 215 #[.val (.int p0), .val (.int p1), .val (.int p2), .val (.int p3), .val (.int p4), .val (.int p5), .val (.ref ss), .val (.int (2 : Int32)), .val (.int v25), .unset, .unset, .unset, .unset, .unset] [])) (fun t k => XS.icmpYes X41.here hx rfl (pc0 := 208) (pc' := 215) rfl (hb hby at_208) rfl (feq hc208).2 (by decide) (by decide) k) ?_
          refine own_step (B := T41.setTop (mkF m 216 #[.val (.int p0), .val (.int p1), .val (.int p2), .val (.int p3), .val (.int p4), .val (.int p5), .val (.ref ss), .val (.int (2 : Int32)), .val (.int v25), .unset, .unset, .unset, .unset, .unset] [(.int (0 : Int32))])) (fun t k => XS.iconst X41.here hx rfl (hb hby at_215) k) ?_
          try simp only [if_pos hc199, if_neg hc208] at hJ
          exact hJ _ _ X41 e41 N0
      · skip
        refine own_step (B := T41.setTop (mkF m 215 #[.val (.int p0), .val (.int p1), .val (.int p2), .val (.int p3), .val (.int p4), .val (.int p5), .val (.ref ss), .val (.int (2 : Int32)), .val (.int v25), .unset, .unset, .unset, .unset, .unset] [])) (fun t k => XS.icmpYes X41.here hx rfl (pc0 := 199) (pc' := 215) rfl (hb hby at_199) rfl (feq hc199).2 (by decide) (by decide) k) ?_
        refine own_step (B := T41.setTop (mkF m 216 #[.val (.int p0), .val (.int p1), .val (.int p2), .val (.int p3), .val (.int p4), .val (.int p5), .val (.ref ss), .val (.int (2 : Int32)), .val (.int v25), .unset, .unset, .unset, .unset, .unset] [(.int (0 : Int32))])) (fun t k => XS.iconst X41.here hx rfl (hb hby at_215) k) ?_
        try simp only [if_neg hc199] at hJ
        exact hJ _ _ X41 e41 N0
    refine J80 ?_
    clear J80
    intro T82 ls82 X82 e82 N0
    obtain ⟨c0, e_c0⟩ : ∃ z, z = (if (p3 &&& (1 : Int32)) = (1 : Int32) then (if v5 = v25 then (1 : Int32) else (0 : Int32)) else (0 : Int32)) := ⟨_, rfl⟩
    rw [← e_c0]
    refine own_step (B := T82.setTop (mkF m 218 #[.val (.int p0), .val (.int p1), .val (.int p2), .val (.int p3), .val (.int p4), .val (.int p5), .val (.ref ss), .val (.int (2 : Int32)), .val (.int v25), .val (.int c0), .unset, .unset, .unset, .unset] [])) (fun t k => XS.istore X82.here hx rfl (hb hby at_216) rfl (l' := #[.val (.int p0), .val (.int p1), .val (.int p2), .val (.int p3), .val (.int p4), .val (.int p5), .val (.ref ss), .val (.int (2 : Int32)), .val (.int v25), .val (.int c0), .unset, .unset, .unset, .unset]) rfl k) ?_
    refine own_step (B := T82.setTop (mkF m 220 #[.val (.int p0), .val (.int p1), .val (.int p2), .val (.int p3), .val (.int p4), .val (.int p5), .val (.ref ss), .val (.int (2 : Int32)), .val (.int v25), .val (.int c0), .unset, .unset, .unset, .unset] [(.ref ss)])) (fun t k => XS.aload X82.here hx rfl (hb hby at_218) rfl rfl k) ?_
    refine own_step (B := T82.setTop (mkF m 221 #[.val (.int p0), .val (.int p1), .val (.int p2), .val (.int p3), .val (.int p4), .val (.int p5), .val (.ref ss), .val (.int (2 : Int32)), .val (.int v25), .val (.int c0), .unset, .unset, .unset, .unset] [(.int (3 : Int32)), (.ref ss)])) (fun t k => XS.iconst X82.here hx rfl (hb hby at_220) k) ?_
    have Vo_83 := V_ss
    obtain ⟨cl_83, Ar_83, q_83, S_83, M_83, H_83, G_83⟩ := Vo_83
    refine own_step (B := T82.setTop (mkF m 222 #[.val (.int p0), .val (.int p1), .val (.int p2), .val (.int p3), .val (.int p4), .val (.int p5), .val (.ref ss), .val (.int (2 : Int32)), .val (.int v25), .val (.int c0), .unset, .unset, .unset, .unset] [(.int (((p3.toUInt32 >>> ((1 : Int32) &&& 31).toUInt32).toInt32) &&& (1 : Int32)))])) (fun t k => X82.iaload hx (j := (3 : Int32)) (v := (.int (((p3.toUInt32 >>> ((1 : Int32) &&& 31).toUInt32).toInt32) &&& (1 : Int32)))) (by rw [e82]; exact Ar_83.1) (State.isArrayOf_alike hZ.alike Ar_83.2.1) Ar_83.2.2 (inb_of S_83 ⟨by decide, by decide⟩) (Has.at H_83 (inb_of S_83 ⟨by decide, by decide⟩) rfl) (g := (mkF m 221 #[.val (.int p0), .val (.int p1), .val (.int p2), .val (.int p3), .val (.int p4), .val (.int p5), .val (.ref ss), .val (.int (2 : Int32)), .val (.int v25), .val (.int c0), .unset, .unset, .unset, .unset] [(.int (3 : Int32)), (.ref ss)])) rfl rfl (hb hby at_221) t k) ?_
    refine own_step (B := T82.setTop (mkF m 223 #[.val (.int p0), .val (.int p1), .val (.int p2), .val (.int p3), .val (.int p4), .val (.int p5), .val (.ref ss), .val (.int (2 : Int32)), .val (.int v25), .val (.int c0), .unset, .unset, .unset, .unset] [(.int (1 : Int32)), (.int (((p3.toUInt32 >>> ((1 : Int32) &&& 31).toUInt32).toInt32) &&& (1 : Int32)))])) (fun t k => XS.iconst X82.here hx rfl (hb hby at_222) k) ?_
    have J84 : (∀ (T' : State) (ls' : List Loc), Stand p l e room_1 s m #[(.int p0), (.int p1), (.int p2), (.int p3), (.int p4), (.int p5)] below meth c T' ls' 1 12 → T'.heap = h41 → Fr n0 ls' → own_G p.tables e below s (QQ_rm0 Z p0 p1 p2 p3 p4 p5 h0 n0) room_1.cells room_1.slots (T'.setTop (mkF m 240 #[.val (.int p0), .val (.int p1), .val (.int p2), .val (.int p3), .val (.int p4), .val (.int p5), .val (.ref ss), .val (.int (2 : Int32)), .val (.int v25), .val (.int c0), .unset, .unset, .unset, .unset] [(.int (if (((p3.toUInt32 >>> ((1 : Int32) &&& 31).toUInt32).toInt32) &&& (1 : Int32)) = (1 : Int32) then (if v15 = v25 then (1 : Int32) else (0 : Int32)) else (0 : Int32)))]))) → own_G p.tables e below s (QQ_rm0 Z p0 p1 p2 p3 p4 p5 h0 n0) room_1.cells room_1.slots (T82.setTop (mkF m 223 #[.val (.int p0), .val (.int p1), .val (.int p2), .val (.int p3), .val (.int p4), .val (.int p5), .val (.ref ss), .val (.int (2 : Int32)), .val (.int v25), .val (.int c0), .unset, .unset, .unset, .unset] [(.int (1 : Int32)), (.int (((p3.toUInt32 >>> ((1 : Int32) &&& 31).toUInt32).toInt32) &&& (1 : Int32)))])) := by
      intro hJ
      by_cases hc223 : (((p3.toUInt32 >>> ((1 : Int32) &&& 31).toUInt32).toInt32) &&& (1 : Int32)) = (1 : Int32)
      · skip
        refine own_step (B := T82.setTop (mkF m 226 #[.val (.int p0), .val (.int p1), .val (.int p2), .val (.int p3), .val (.int p4), .val (.int p5), .val (.ref ss), .val (.int (2 : Int32)), .val (.int v25), .val (.int c0), .unset, .unset, .unset, .unset] [])) (fun t k => XS.icmpNo X82.here hx rfl (hb hby at_223) rfl (teq hc223).2 k) ?_
        refine own_step (B := T82.setTop (mkF m 228 #[.val (.int p0), .val (.int p1), .val (.int p2), .val (.int p3), .val (.int p4), .val (.int p5), .val (.ref ss), .val (.int (2 : Int32)), .val (.int v25), .val (.int c0), .unset, .unset, .unset, .unset] [(.ref ss)])) (fun t k => XS.aload X82.here hx rfl (hb hby at_226) rfl rfl k) ?_
        refine own_step (B := T82.setTop (mkF m 229 #[.val (.int p0), .val (.int p1), .val (.int p2), .val (.int p3), .val (.int p4), .val (.int p5), .val (.ref ss), .val (.int (2 : Int32)), .val (.int v25), .val (.int c0), .unset, .unset, .unset, .unset] [(.int (4 : Int32)), (.ref ss)])) (fun t k => XS.iconst X82.here hx rfl (hb hby at_228) k) ?_
        have Vo_85 := V_ss
        obtain ⟨cl_85, Ar_85, q_85, S_85, M_85, H_85, G_85⟩ := Vo_85
        refine own_step (B := T82.setTop (mkF m 230 #[.val (.int p0), .val (.int p1), .val (.int p2), .val (.int p3), .val (.int p4), .val (.int p5), .val (.ref ss), .val (.int (2 : Int32)), .val (.int v25), .val (.int c0), .unset, .unset, .unset, .unset] [(.int v15)])) (fun t k => X82.iaload hx (j := (4 : Int32)) (v := (.int v15)) (by rw [e82]; exact Ar_85.1) (State.isArrayOf_alike hZ.alike Ar_85.2.1) Ar_85.2.2 (inb_of S_85 ⟨by decide, by decide⟩) (Has.at H_85 (inb_of S_85 ⟨by decide, by decide⟩) rfl) (g := (mkF m 229 #[.val (.int p0), .val (.int p1), .val (.int p2), .val (.int p3), .val (.int p4), .val (.int p5), .val (.ref ss), .val (.int (2 : Int32)), .val (.int v25), .val (.int c0), .unset, .unset, .unset, .unset] [(.int (4 : Int32)), (.ref ss)])) rfl rfl (hb hby at_229) t k) ?_
        refine own_step (B := T82.setTop (mkF m 232 #[.val (.int p0), .val (.int p1), .val (.int p2), .val (.int p3), .val (.int p4), .val (.int p5), .val (.ref ss), .val (.int (2 : Int32)), .val (.int v25), .val (.int c0), .unset, .unset, .unset, .unset] [(.int v25), (.int v15)])) (fun t k => XS.iload X82.here hx rfl (hb hby at_230) rfl k) ?_
        by_cases hc232 : v15 = v25
        · skip
          refine own_step (B := T82.setTop (mkF m 235 #[.val (.int p0), .val (.int p1), .val (.int p2), .val (.int p3), .val (.int p4), .val (.int p5), .val (.ref ss), .val (.int (2 : Int32)), .val (.int v25), .val (.int c0), .unset, .unset, .unset, .unset] [])) (fun t k => XS.icmpNo X82.here hx rfl (hb hby at_232) rfl (teq hc232).2 k) ?_
          refine own_step (B := T82.setTop (mkF m 236 #[.val (.int p0), .val (.int p1), .val (.int p2), .val (.int p3), .val (.int p4), .val (.int p5), .val (.ref ss), .val (.int (2 : Int32)), .val (.int v25), .val (.int c0), .unset, .unset, .unset, .unset] [(.int (1 : Int32))])) (fun t k => XS.iconst X82.here hx rfl (hb hby at_235) k) ?_
          refine own_step (B := T82.setTop (mkF m 240 #[.val (.int p0), .val (.int p1), .val (.int p2), .val (.int p3), .val (.int p4), .val (.int p5), .val (.ref ss), .val (.int (2 : Int32)), .val (.int v25), .val (.int c0), .unset, .unset, .unset, .unset] [(.int (1 : Int32))])) (fun t k => XS.goto X82.here hx rfl (pc0 := 236) (pc' := 240) rfl (hb hby at_236) (by decide) (by decide) k) ?_
          try simp only [if_pos hc223, if_pos hc232] at hJ
          exact hJ _ _ X82 e82 N0
        · skip
          refine own_step (B := T82.setTop (mkF m 239 #[.val (.int p0), .val (.int p1), .val (.int p2), .val (.int p3), .val (.int p4), .val (.int p5), .val (.ref ss), .val (.int (2 : Int32)), .val (.int v25), .val (.int c0), .unset, .unset, .unset, .unset] [])) (fun t k => XS.icmpYes X82.here hx rfl (pc0 := 232) (pc' := 239) rfl (hb hby at_232) rfl (feq hc232).2 (by decide) (by decide) k) ?_
          refine own_step (B := T82.setTop (mkF m 240 #[.val (.int p0), .val (.int p1), .val (.int p2), .val (.int p3), .val (.int p4), .val (.int p5), .val (.ref ss), .val (.int (2 : Int32)), .val (.int v25), .val (.int c0), .unset, .unset, .unset, .unset] [(.int (0 : Int32))])) (fun t k => XS.iconst X82.here hx rfl (hb hby at_239) k) ?_
          try simp only [if_pos hc223, if_neg hc232] at hJ
          exact hJ _ _ X82 e82 N0
      · skip
        refine own_step (B := T82.setTop (mkF m 239 #[.val (.int p0), .val (.int p1), .val (.int p2), .val (.int p3), .val (.int p4), .val (.int p5), .val (.ref ss), .val (.int (2 : Int32)), .val (.int v25), .val (.int c0), .unset, .unset, .unset, .unset] [])) (fun t k => XS.icmpYes X82.here hx rfl (pc0 := 223) (pc' := 239) rfl (hb hby at_223) rfl (feq hc223).2 (by decide) (by decide) k) ?_
        refine own_step (B := T82.setTop (mkF m 240 #[.val (.int p0), .val (.int p1), .val (.int p2), .val (.int p3), .val (.int p4), .val (.int p5), .val (.ref ss), .val (.int (2 : Int32)), .val (.int v25), .val (.int c0), .unset, .unset, .unset, .unset] [(.int (0 : Int32))])) (fun t k => XS.iconst X82.here hx rfl (hb hby at_239) k) ?_
        try simp only [if_neg hc223] at hJ
        exact hJ _ _ X82 e82 N0
    refine J84 ?_
    clear J84
    intro T86 ls86 X86 e86 N0
    obtain ⟨c1, e_c1⟩ : ∃ z, z = (if (((p3.toUInt32 >>> ((1 : Int32) &&& 31).toUInt32).toInt32) &&& (1 : Int32)) = (1 : Int32) then (if v15 = v25 then (1 : Int32) else (0 : Int32)) else (0 : Int32)) := ⟨_, rfl⟩
    rw [← e_c1]
    refine own_step (B := T86.setTop (mkF m 242 #[.val (.int p0), .val (.int p1), .val (.int p2), .val (.int p3), .val (.int p4), .val (.int p5), .val (.ref ss), .val (.int (2 : Int32)), .val (.int v25), .val (.int c0), .val (.int c1), .unset, .unset, .unset] [])) (fun t k => XS.istore X86.here hx rfl (hb hby at_240) rfl (l' := #[.val (.int p0), .val (.int p1), .val (.int p2), .val (.int p3), .val (.int p4), .val (.int p5), .val (.ref ss), .val (.int (2 : Int32)), .val (.int v25), .val (.int c0), .val (.int c1), .unset, .unset, .unset]) rfl k) ?_
    refine own_step (B := T86.setTop (mkF m 244 #[.val (.int p0), .val (.int p1), .val (.int p2), .val (.int p3), .val (.int p4), .val (.int p5), .val (.ref ss), .val (.int (2 : Int32)), .val (.int v25), .val (.int c0), .val (.int c1), .unset, .unset, .unset] [(.ref ss)])) (fun t k => XS.aload X86.here hx rfl (hb hby at_242) rfl rfl k) ?_
    refine own_step (B := T86.setTop (mkF m 246 #[.val (.int p0), .val (.int p1), .val (.int p2), .val (.int p3), .val (.int p4), .val (.int p5), .val (.ref ss), .val (.int (2 : Int32)), .val (.int v25), .val (.int c0), .val (.int c1), .unset, .unset, .unset] [(.int (6 : Int32)), (.ref ss)])) (fun t k => XS.bipush X86.here hx rfl (hb hby at_244) k) ?_
    have Vo_87 := V_ss
    obtain ⟨cl_87, Ar_87, q_87, S_87, M_87, H_87, G_87⟩ := Vo_87
    refine own_step (B := T86.setTop (mkF m 247 #[.val (.int p0), .val (.int p1), .val (.int p2), .val (.int p3), .val (.int p4), .val (.int p5), .val (.ref ss), .val (.int (2 : Int32)), .val (.int v25), .val (.int c0), .val (.int c1), .unset, .unset, .unset] [(.int (((p3.toUInt32 >>> ((2 : Int32) &&& 31).toUInt32).toInt32) &&& (1 : Int32)))])) (fun t k => X86.iaload hx (j := (6 : Int32)) (v := (.int (((p3.toUInt32 >>> ((2 : Int32) &&& 31).toUInt32).toInt32) &&& (1 : Int32)))) (by rw [e86]; exact Ar_87.1) (State.isArrayOf_alike hZ.alike Ar_87.2.1) Ar_87.2.2 (inb_of S_87 ⟨by decide, by decide⟩) (Has.at H_87 (inb_of S_87 ⟨by decide, by decide⟩) rfl) (g := (mkF m 246 #[.val (.int p0), .val (.int p1), .val (.int p2), .val (.int p3), .val (.int p4), .val (.int p5), .val (.ref ss), .val (.int (2 : Int32)), .val (.int v25), .val (.int c0), .val (.int c1), .unset, .unset, .unset] [(.int (6 : Int32)), (.ref ss)])) rfl rfl (hb hby at_246) t k) ?_
    refine own_step (B := T86.setTop (mkF m 248 #[.val (.int p0), .val (.int p1), .val (.int p2), .val (.int p3), .val (.int p4), .val (.int p5), .val (.ref ss), .val (.int (2 : Int32)), .val (.int v25), .val (.int c0), .val (.int c1), .unset, .unset, .unset] [(.int (1 : Int32)), (.int (((p3.toUInt32 >>> ((2 : Int32) &&& 31).toUInt32).toInt32) &&& (1 : Int32)))])) (fun t k => XS.iconst X86.here hx rfl (hb hby at_247) k) ?_
    have J88 : (∀ (T' : State) (ls' : List Loc), Stand p l e room_1 s m #[(.int p0), (.int p1), (.int p2), (.int p3), (.int p4), (.int p5)] below meth c T' ls' 1 12 → T'.heap = h41 → Fr n0 ls' → own_G p.tables e below s (QQ_rm0 Z p0 p1 p2 p3 p4 p5 h0 n0) room_1.cells room_1.slots (T'.setTop (mkF m 266 #[.val (.int p0), .val (.int p1), .val (.int p2), .val (.int p3), .val (.int p4), .val (.int p5), .val (.ref ss), .val (.int (2 : Int32)), .val (.int v25), .val (.int c0), .val (.int c1), .unset, .unset, .unset] [(.int (if (((p3.toUInt32 >>> ((2 : Int32) &&& 31).toUInt32).toInt32) &&& (1 : Int32)) = (1 : Int32) then (1 : Int32) else (0 : Int32)))]))) → own_G p.tables e below s (QQ_rm0 Z p0 p1 p2 p3 p4 p5 h0 n0) room_1.cells room_1.slots (T86.setTop (mkF m 248 #[.val (.int p0), .val (.int p1), .val (.int p2), .val (.int p3), .val (.int p4), .val (.int p5), .val (.ref ss), .val (.int (2 : Int32)), .val (.int v25), .val (.int c0), .val (.int c1), .unset, .unset, .unset] [(.int (1 : Int32)), (.int (((p3.toUInt32 >>> ((2 : Int32) &&& 31).toUInt32).toInt32) &&& (1 : Int32)))])) := by
      intro hJ
      by_cases hc248 : (((p3.toUInt32 >>> ((2 : Int32) &&& 31).toUInt32).toInt32) &&& (1 : Int32)) = (1 : Int32)
      · skip
        refine own_step (B := T86.setTop (mkF m 251 #[.val (.int p0), .val (.int p1), .val (.int p2), .val (.int p3), .val (.int p4), .val (.int p5), .val (.ref ss), .val (.int (2 : Int32)), .val (.int v25), .val (.int c0), .val (.int c1), .unset, .unset, .unset] [])) (fun t k => XS.icmpNo X86.here hx rfl (hb hby at_248) rfl (teq hc248).2 k) ?_
        refine own_step (B := T86.setTop (mkF m 253 #[.val (.int p0), .val (.int p1), .val (.int p2), .val (.int p3), .val (.int p4), .val (.int p5), .val (.ref ss), .val (.int (2 : Int32)), .val (.int v25), .val (.int c0), .val (.int c1), .unset, .unset, .unset] [(.ref ss)])) (fun t k => XS.aload X86.here hx rfl (hb hby at_251) rfl rfl k) ?_
        refine own_step (B := T86.setTop (mkF m 255 #[.val (.int p0), .val (.int p1), .val (.int p2), .val (.int p3), .val (.int p4), .val (.int p5), .val (.ref ss), .val (.int (2 : Int32)), .val (.int v25), .val (.int c0), .val (.int c1), .unset, .unset, .unset] [(.int (7 : Int32)), (.ref ss)])) (fun t k => XS.bipush X86.here hx rfl (hb hby at_253) k) ?_
        have Vo_89 := V_ss
        obtain ⟨cl_89, Ar_89, q_89, S_89, M_89, H_89, G_89⟩ := Vo_89
        refine own_step (B := T86.setTop (mkF m 256 #[.val (.int p0), .val (.int p1), .val (.int p2), .val (.int p3), .val (.int p4), .val (.int p5), .val (.ref ss), .val (.int (2 : Int32)), .val (.int v25), .val (.int c0), .val (.int c1), .unset, .unset, .unset] [(.int v25)])) (fun t k => X86.iaload hx (j := (7 : Int32)) (v := (.int v25)) (by rw [e86]; exact Ar_89.1) (State.isArrayOf_alike hZ.alike Ar_89.2.1) Ar_89.2.2 (inb_of S_89 ⟨by decide, by decide⟩) (Has.at H_89 (inb_of S_89 ⟨by decide, by decide⟩) rfl) (g := (mkF m 255 #[.val (.int p0), .val (.int p1), .val (.int p2), .val (.int p3), .val (.int p4), .val (.int p5), .val (.ref ss), .val (.int (2 : Int32)), .val (.int v25), .val (.int c0), .val (.int c1), .unset, .unset, .unset] [(.int (7 : Int32)), (.ref ss)])) rfl rfl (hb hby at_255) t k) ?_
        refine own_step (B := T86.setTop (mkF m 258 #[.val (.int p0), .val (.int p1), .val (.int p2), .val (.int p3), .val (.int p4), .val (.int p5), .val (.ref ss), .val (.int (2 : Int32)), .val (.int v25), .val (.int c0), .val (.int c1), .unset, .unset, .unset] [(.int v25), (.int v25)])) (fun t k => XS.iload X86.here hx rfl (hb hby at_256) rfl k) ?_
        refine own_step (B := T86.setTop (mkF m 261 #[.val (.int p0), .val (.int p1), .val (.int p2), .val (.int p3), .val (.int p4), .val (.int p5), .val (.ref ss), .val (.int (2 : Int32)), .val (.int v25), .val (.int c0), .val (.int c1), .unset, .unset, .unset] [])) (fun t k => XS.icmpNo X86.here hx rfl (hb hby at_258) rfl (teq rfl).2 k) ?_
        refine own_step (B := T86.setTop (mkF m 262 #[.val (.int p0), .val (.int p1), .val (.int p2), .val (.int p3), .val (.int p4), .val (.int p5), .val (.ref ss), .val (.int (2 : Int32)), .val (.int v25), .val (.int c0), .val (.int c1), .unset, .unset, .unset] [(.int (1 : Int32))])) (fun t k => XS.iconst X86.here hx rfl (hb hby at_261) k) ?_
        refine own_step (B := T86.setTop (mkF m 266 #[.val (.int p0), .val (.int p1), .val (.int p2), .val (.int p3), .val (.int p4), .val (.int p5), .val (.ref ss), .val (.int (2 : Int32)), .val (.int v25), .val (.int c0), .val (.int c1), .unset, .unset, .unset] [(.int (1 : Int32))])) (fun t k => XS.goto X86.here hx rfl (pc0 := 262) (pc' := 266) rfl (hb hby at_262) (by decide) (by decide) k) ?_
        try simp only [if_pos hc248] at hJ
        exact hJ _ _ X86 e86 N0
      · skip
        refine own_step (B := T86.setTop (mkF m 265 #[.val (.int p0), .val (.int p1), .val (.int p2), .val (.int p3), .val (.int p4), .val (.int p5), .val (.ref ss), .val (.int (2 : Int32)), .val (.int v25), .val (.int c0), .val (.int c1), .unset, .unset, .unset] [])) (fun t k => XS.icmpYes X86.here hx rfl (pc0 := 248) (pc' := 265) rfl (hb hby at_248) rfl (feq hc248).2 (by decide) (by decide) k) ?_
        refine own_step (B := T86.setTop (mkF m 266 #[.val (.int p0), .val (.int p1), .val (.int p2), .val (.int p3), .val (.int p4), .val (.int p5), .val (.ref ss), .val (.int (2 : Int32)), .val (.int v25), .val (.int c0), .val (.int c1), .unset, .unset, .unset] [(.int (0 : Int32))])) (fun t k => XS.iconst X86.here hx rfl (hb hby at_265) k) ?_
        try simp only [if_neg hc248] at hJ
        exact hJ _ _ X86 e86 N0
    refine J88 ?_
    clear J88
    intro T90 ls90 X90 e90 N0
    obtain ⟨c2, e_c2⟩ : ∃ z, z = (if (((p3.toUInt32 >>> ((2 : Int32) &&& 31).toUInt32).toInt32) &&& (1 : Int32)) = (1 : Int32) then (1 : Int32) else (0 : Int32)) := ⟨_, rfl⟩
    rw [← e_c2]
    refine own_step (B := T90.setTop (mkF m 268 #[.val (.int p0), .val (.int p1), .val (.int p2), .val (.int p3), .val (.int p4), .val (.int p5), .val (.ref ss), .val (.int (2 : Int32)), .val (.int v25), .val (.int c0), .val (.int c1), .val (.int c2), .unset, .unset] [])) (fun t k => XS.istore X90.here hx rfl (hb hby at_266) rfl (l' := #[.val (.int p0), .val (.int p1), .val (.int p2), .val (.int p3), .val (.int p4), .val (.int p5), .val (.ref ss), .val (.int (2 : Int32)), .val (.int v25), .val (.int c0), .val (.int c1), .val (.int c2), .unset, .unset]) rfl k) ?_
    refine own_step (B := T90.setTop (mkF m 270 #[.val (.int p0), .val (.int p1), .val (.int p2), .val (.int p3), .val (.int p4), .val (.int p5), .val (.ref ss), .val (.int (2 : Int32)), .val (.int v25), .val (.int c0), .val (.int c1), .val (.int c2), .unset, .unset] [(.int (2 : Int32))])) (fun t k => XS.iload X90.here hx rfl (hb hby at_268) rfl k) ?_
    have J91 : (∀ (T' : State) (ls' : List Loc), Stand p l e room_1 s m #[(.int p0), (.int p1), (.int p2), (.int p3), (.int p4), (.int p5)] below meth c T' ls' 1 12 → T'.heap = h41 → Fr n0 ls' → own_G p.tables e below s (QQ_rm0 Z p0 p1 p2 p3 p4 p5 h0 n0) room_1.cells room_1.slots (T'.setTop (mkF m 305 #[.val (.int p0), .val (.int p1), .val (.int p2), .val (.int p3), .val (.int p4), .val (.int p5), .val (.ref ss), .val (.int (2 : Int32)), .val (.int v25), .val (.int c0), .val (.int c1), .val (.int c2), .unset, .unset] [(.int (if c0 = (0 : Int32) then (if c1 = (0 : Int32) then (1 : Int32) else (0 : Int32)) else (0 : Int32)))]))) → own_G p.tables e below s (QQ_rm0 Z p0 p1 p2 p3 p4 p5 h0 n0) room_1.cells room_1.slots (T90.setTop (mkF m 270 #[.val (.int p0), .val (.int p1), .val (.int p2), .val (.int p3), .val (.int p4), .val (.int p5), .val (.ref ss), .val (.int (2 : Int32)), .val (.int v25), .val (.int c0), .val (.int c1), .val (.int c2), .unset, .unset] [(.int (2 : Int32))])) := by
      intro hJ
      refine own_step (B := T90.setTop (mkF m 273 #[.val (.int p0), .val (.int p1), .val (.int p2), .val (.int p3), .val (.int p4), .val (.int p5), .val (.ref ss), .val (.int (2 : Int32)), .val (.int v25), .val (.int c0), .val (.int c1), .val (.int c2), .unset, .unset] [])) (fun t k => XS.ifNo X90.here hx rfl (hb hby at_270) rfl ((if0 _ _).trans (tlt (by decide)).2.2.2) k) ?_
      refine own_step (B := T90.setTop (mkF m 275 #[.val (.int p0), .val (.int p1), .val (.int p2), .val (.int p3), .val (.int p4), .val (.int p5), .val (.ref ss), .val (.int (2 : Int32)), .val (.int v25), .val (.int c0), .val (.int c1), .val (.int c2), .unset, .unset] [(.int c0)])) (fun t k => XS.iload X90.here hx rfl (hb hby at_273) rfl k) ?_
      by_cases hc275 : c0 = (0 : Int32)
      · skip
        refine own_step (B := T90.setTop (mkF m 278 #[.val (.int p0), .val (.int p1), .val (.int p2), .val (.int p3), .val (.int p4), .val (.int p5), .val (.ref ss), .val (.int (2 : Int32)), .val (.int v25), .val (.int c0), .val (.int c1), .val (.int c2), .unset, .unset] [])) (fun t k => XS.ifNo X90.here hx rfl (hb hby at_275) rfl ((if0 _ _).trans (teq hc275).2) k) ?_
        refine own_step (B := T90.setTop (mkF m 280 #[.val (.int p0), .val (.int p1), .val (.int p2), .val (.int p3), .val (.int p4), .val (.int p5), .val (.ref ss), .val (.int (2 : Int32)), .val (.int v25), .val (.int c0), .val (.int c1), .val (.int c2), .unset, .unset] [(.int (2 : Int32))])) (fun t k => XS.iload X90.here hx rfl (hb hby at_278) rfl k) ?_
        refine own_step (B := T90.setTop (mkF m 281 #[.val (.int p0), .val (.int p1), .val (.int p2), .val (.int p3), .val (.int p4), .val (.int p5), .val (.ref ss), .val (.int (2 : Int32)), .val (.int v25), .val (.int c0), .val (.int c1), .val (.int c2), .unset, .unset] [(.int (1 : Int32)), (.int (2 : Int32))])) (fun t k => XS.iconst X90.here hx rfl (hb hby at_280) k) ?_
        refine own_step (B := T90.setTop (mkF m 284 #[.val (.int p0), .val (.int p1), .val (.int p2), .val (.int p3), .val (.int p4), .val (.int p5), .val (.ref ss), .val (.int (2 : Int32)), .val (.int v25), .val (.int c0), .val (.int c1), .val (.int c2), .unset, .unset] [])) (fun t k => XS.icmpNo X90.here hx rfl (hb hby at_281) rfl (tlt (by decide)).2.2.2 k) ?_
        refine own_step (B := T90.setTop (mkF m 286 #[.val (.int p0), .val (.int p1), .val (.int p2), .val (.int p3), .val (.int p4), .val (.int p5), .val (.ref ss), .val (.int (2 : Int32)), .val (.int v25), .val (.int c0), .val (.int c1), .val (.int c2), .unset, .unset] [(.int c1)])) (fun t k => XS.iload X90.here hx rfl (hb hby at_284) rfl k) ?_
        by_cases hc286 : c1 = (0 : Int32)
        · skip
          refine own_step (B := T90.setTop (mkF m 289 #[.val (.int p0), .val (.int p1), .val (.int p2), .val (.int p3), .val (.int p4), .val (.int p5), .val (.ref ss), .val (.int (2 : Int32)), .val (.int v25), .val (.int c0), .val (.int c1), .val (.int c2), .unset, .unset] [])) (fun t k => XS.ifNo X90.here hx rfl (hb hby at_286) rfl ((if0 _ _).trans (teq hc286).2) k) ?_
          refine own_step (B := T90.setTop (mkF m 291 #[.val (.int p0), .val (.int p1), .val (.int p2), .val (.int p3), .val (.int p4), .val (.int p5), .val (.ref ss), .val (.int (2 : Int32)), .val (.int v25), .val (.int c0), .val (.int c1), .val (.int c2), .unset, .unset] [(.int (2 : Int32))])) (fun t k => XS.iload X90.here hx rfl (hb hby at_289) rfl k) ?_
          refine own_step (B := T90.setTop (mkF m 292 #[.val (.int p0), .val (.int p1), .val (.int p2), .val (.int p3), .val (.int p4), .val (.int p5), .val (.ref ss), .val (.int (2 : Int32)), .val (.int v25), .val (.int c0), .val (.int c1), .val (.int c2), .unset, .unset] [(.int (2 : Int32)), (.int (2 : Int32))])) (fun t k => XS.iconst X90.here hx rfl (hb hby at_291) k) ?_
          refine own_step (B := T90.setTop (mkF m 300 #[.val (.int p0), .val (.int p1), .val (.int p2), .val (.int p3), .val (.int p4), .val (.int p5), .val (.ref ss), .val (.int (2 : Int32)), .val (.int v25), .val (.int c0), .val (.int c1), .val (.int c2), .unset, .unset] [])) (fun t k => XS.icmpYes X90.here hx rfl (pc0 := 292) (pc' := 300) rfl (hb hby at_292) rfl (flt (by decide)).2.2.2 (by decide) (by decide) k) ?_
          refine own_step (B := T90.setTop (mkF m 301 #[.val (.int p0), .val (.int p1), .val (.int p2), .val (.int p3), .val (.int p4), .val (.int p5), .val (.ref ss), .val (.int (2 : Int32)), .val (.int v25), .val (.int c0), .val (.int c1), .val (.int c2), .unset, .unset] [(.int (1 : Int32))])) (fun t k => XS.iconst X90.here hx rfl (hb hby at_300) k) ?_
          refine own_step (B := T90.setTop (mkF m 305 #[.val (.int p0), .val (.int p1), .val (.int p2), .val (.int p3), .val (.int p4), .val (.int p5), .val (.ref ss), .val (.int (2 : Int32)), .val (.int v25), .val (.int c0), .val (.int c1), .val (.int c2), .unset, .unset] [(.int (1 : Int32))])) (fun t k => XS.goto X90.here hx rfl (pc0 := 301) (pc' := 305) rfl (hb hby at_301) (by decide) (by decide) k) ?_
          try simp only [if_pos hc275, if_pos hc286] at hJ
          exact hJ _ _ X90 e90 N0
        · skip
          refine own_step (B := T90.setTop (mkF m 304 #[.val (.int p0), .val (.int p1), .val (.int p2), .val (.int p3), .val (.int p4), .val (.int p5), .val (.ref ss), .val (.int (2 : Int32)), .val (.int v25), .val (.int c0), .val (.int c1), .val (.int c2), .unset, .unset] [])) (fun t k => XS.ifYes X90.here hx rfl (pc0 := 286) (pc' := 304) rfl (hb hby at_286) rfl ((if0 _ _).trans (feq hc286).2) (by decide) (by decide) k) ?_
          refine own_step (B := T90.setTop (mkF m 305 #[.val (.int p0), .val (.int p1), .val (.int p2), .val (.int p3), .val (.int p4), .val (.int p5), .val (.ref ss), .val (.int (2 : Int32)), .val (.int v25), .val (.int c0), .val (.int c1), .val (.int c2), .unset, .unset] [(.int (0 : Int32))])) (fun t k => XS.iconst X90.here hx rfl (hb hby at_304) k) ?_
          try simp only [if_pos hc275, if_neg hc286] at hJ
          exact hJ _ _ X90 e90 N0
      · skip
        refine own_step (B := T90.setTop (mkF m 304 #[.val (.int p0), .val (.int p1), .val (.int p2), .val (.int p3), .val (.int p4), .val (.int p5), .val (.ref ss), .val (.int (2 : Int32)), .val (.int v25), .val (.int c0), .val (.int c1), .val (.int c2), .unset, .unset] [])) (fun t k => XS.ifYes X90.here hx rfl (pc0 := 275) (pc' := 304) rfl (hb hby at_275) rfl ((if0 _ _).trans (feq hc275).2) (by decide) (by decide) k) ?_
        refine own_step (B := T90.setTop (mkF m 305 #[.val (.int p0), .val (.int p1), .val (.int p2), .val (.int p3), .val (.int p4), .val (.int p5), .val (.ref ss), .val (.int (2 : Int32)), .val (.int v25), .val (.int c0), .val (.int c1), .val (.int c2), .unset, .unset] [(.int (0 : Int32))])) (fun t k => XS.iconst X90.here hx rfl (hb hby at_304) k) ?_
        try simp only [if_neg hc275] at hJ
        exact hJ _ _ X90 e90 N0
    refine J91 ?_
    clear J91
    intro T92 ls92 X92 e92 N0
    obtain ⟨ex, e_ex⟩ : ∃ z, z = (if c0 = (0 : Int32) then (if c1 = (0 : Int32) then (1 : Int32) else (0 : Int32)) else (0 : Int32)) := ⟨_, rfl⟩
    rw [← e_ex]
    refine own_step (B := T92.setTop (mkF m 307 #[.val (.int p0), .val (.int p1), .val (.int p2), .val (.int p3), .val (.int p4), .val (.int p5), .val (.ref ss), .val (.int (2 : Int32)), .val (.int v25), .val (.int c0), .val (.int c1), .val (.int c2), .val (.int ex), .unset] [])) (fun t k => XS.istore X92.here hx rfl (hb hby at_305) rfl (l' := #[.val (.int p0), .val (.int p1), .val (.int p2), .val (.int p3), .val (.int p4), .val (.int p5), .val (.ref ss), .val (.int (2 : Int32)), .val (.int v25), .val (.int c0), .val (.int c1), .val (.int c2), .val (.int ex), .unset]) rfl k) ?_
    obtain ⟨T93, h93, X93, e93, E93, A93, D93, -, st93⟩ := newO X92 hx hZ hown (hw _ (List.mem_of_getElem? (i := 5) rfl)) (hw _ (List.mem_of_getElem? (i := 6) rfl)) (hw _ (List.mem_of_getElem? (i := 7) rfl)) e92 (g := (mkF m 307 #[.val (.int p0), .val (.int p1), .val (.int p2), .val (.int p3), .val (.int p4), .val (.int p5), .val (.ref ss), .val (.int (2 : Int32)), .val (.int v25), .val (.int c0), .val (.int c1), .val (.int c2), .val (.int ex), .unset] [])) rfl (hb hby at_307) (by decide) (by decide)
    obtain ⟨tt, g93⟩ : ∃ z, z = h41.size := ⟨_, rfl⟩
    rw [← g93] at A93 D93 st93
    have g_tt : n0 ≤ tt := Nat.le_trans Z0 (Nat.le_of_eq g93.symm)
    have ne_ss_tt : ss ≠ tt := Nat.ne_of_lt (Nat.lt_of_lt_of_le V_ss.lt (Nat.le_of_eq g93.symm))
    have V_ss := V_ss.ext E93
    have Z0 := Nat.le_trans Z0 E93.1
    have E_tt := A93
    have F_index_tt : Fld Z h93 tt "com/example/tightrope/tightrope/history/Transaction" "index" "J" (.long (0 : Int64)) := D93 (Or.inr (hw _ (List.mem_of_getElem? (i := 21) rfl))) (ty := .long) (by decide)
    have F_invoke_tt : Fld Z h93 tt "com/example/tightrope/tightrope/history/Transaction" "invoke" "I" (.int (0 : Int32)) := D93 (Or.inr (hw _ (List.mem_of_getElem? (i := 23) rfl))) (ty := .int) (by decide)
    have F_completion_tt : Fld Z h93 tt "com/example/tightrope/tightrope/history/Transaction" "completion" "I" (.int (0 : Int32)) := D93 (Or.inr (hw _ (List.mem_of_getElem? (i := 25) rfl))) (ty := .int) (by decide)
    have F_required_tt : Fld Z h93 tt "com/example/tightrope/tightrope/history/Transaction" "required" "Z" (.int (0 : Int32)) := D93 (Or.inr (hw _ (List.mem_of_getElem? (i := 27) rfl))) (ty := .boolean) (by decide)
    have F_steps_tt : Fld Z h93 tt "com/example/tightrope/tightrope/history/Transaction" "steps" "[I" .null := D93 (Or.inr (hw _ (List.mem_of_getElem? (i := 29) rfl))) (ty := (.array .int)) (by decide)
    refine own_step (B := T93.setTop (mkF m 310 #[.val (.int p0), .val (.int p1), .val (.int p2), .val (.int p3), .val (.int p4), .val (.int p5), .val (.ref ss), .val (.int (2 : Int32)), .val (.int v25), .val (.int c0), .val (.int c1), .val (.int c2), .val (.int ex), .unset] [(.ref tt)])) (fun t k => st93 t k) ?_
    refine own_step (B := T93.setTop (mkF m 311 #[.val (.int p0), .val (.int p1), .val (.int p2), .val (.int p3), .val (.int p4), .val (.int p5), .val (.ref ss), .val (.int (2 : Int32)), .val (.int v25), .val (.int c0), .val (.int c1), .val (.int c2), .val (.int ex), .unset] [(.ref tt), (.ref tt)])) (fun t k => XS.dup X93.here hx rfl (hb hby at_310) rfl rfl k) ?_
    refine own_step (B := T93.setTop (mkF m 312 #[.val (.int p0), .val (.int p1), .val (.int p2), .val (.int p3), .val (.int p4), .val (.int p5), .val (.ref ss), .val (.int (2 : Int32)), .val (.int v25), .val (.int c0), .val (.int c1), .val (.int c2), .val (.int ex), .unset] [(.long (0 : Int64)), (.ref tt), (.ref tt)])) (fun t k => XS.lconst X93.here hx rfl (hb hby at_311) k) ?_
    refine own_step (B := T93.setTop (mkF m 313 #[.val (.int p0), .val (.int p1), .val (.int p2), .val (.int p3), .val (.int p4), .val (.int p5), .val (.ref ss), .val (.int (2 : Int32)), .val (.int v25), .val (.int c0), .val (.int c1), .val (.int c2), .val (.int ex), .unset] [(.int (1 : Int32)), (.long (0 : Int64)), (.ref tt), (.ref tt)])) (fun t k => XS.iconst X93.here hx rfl (hb hby at_312) k) ?_
    refine own_step (B := T93.setTop (mkF m 315 #[.val (.int p0), .val (.int p1), .val (.int p2), .val (.int p3), .val (.int p4), .val (.int p5), .val (.ref ss), .val (.int (2 : Int32)), .val (.int v25), .val (.int c0), .val (.int c1), .val (.int c2), .val (.int ex), .unset] [(.int (2147483647 : Int32)), (.int (1 : Int32)), (.long (0 : Int64)), (.ref tt), (.ref tt)])) (fun t k => X93.ldcInt hx hown (mvT hZ (hw _ (List.mem_of_getElem? (i := 8) rfl))) (g := (mkF m 313 #[.val (.int p0), .val (.int p1), .val (.int p2), .val (.int p3), .val (.int p4), .val (.int p5), .val (.ref ss), .val (.int (2 : Int32)), .val (.int v25), .val (.int c0), .val (.int c1), .val (.int c2), .val (.int ex), .unset] [(.int (1 : Int32)), (.long (0 : Int64)), (.ref tt), (.ref tt)])) rfl (hb hby at_313) t k) ?_
    refine own_step (B := T93.setTop (mkF m 316 #[.val (.int p0), .val (.int p1), .val (.int p2), .val (.int p3), .val (.int p4), .val (.int p5), .val (.ref ss), .val (.int (2 : Int32)), .val (.int v25), .val (.int c0), .val (.int c1), .val (.int c2), .val (.int ex), .unset] [(.int (1 : Int32)), (.int (2147483647 : Int32)), (.int (1 : Int32)), (.long (0 : Int64)), (.ref tt), (.ref tt)])) (fun t k => XS.iconst X93.here hx rfl (hb hby at_315) k) ?_
    refine own_step (B := T93.setTop (mkF m 318 #[.val (.int p0), .val (.int p1), .val (.int p2), .val (.int p3), .val (.int p4), .val (.int p5), .val (.ref ss), .val (.int (2 : Int32)), .val (.int v25), .val (.int c0), .val (.int c1), .val (.int c2), .val (.int ex), .unset] [(.ref ss), (.int (1 : Int32)), (.int (2147483647 : Int32)), (.int (1 : Int32)), (.long (0 : Int64)), (.ref tt), (.ref tt)])) (fun t k => XS.aload X93.here hx rfl (hb hby at_316) rfl rfl k) ?_
    obtain ⟨_, _, ⟨T94, L94, k94, n94⟩, -, X94, ⟨Lc94, hQ94, l94, y94, z94⟩, st94⟩ := X93.specialBack hx (y := (⟨"com/example/tightrope/tightrope/history/Transaction", "<init>", "(JIIZ[I)V"⟩ : MethodName)) rfl hown (mvT hZ (hw _ (List.mem_of_getElem? (i := 9) rfl))) (mvT hZ (hw _ (List.mem_of_getElem? (i := 10) rfl))) (mvT hZ (hw _ (List.mem_of_getElem? (i := 11) rfl))) (by decide) (backOf (W := 1) (rm2 l Z a0 hw [] tt (0 : Int64) (1 : Int32) (2147483647 : Int32) (1 : Int32) ss  h93 n0 Z0 E_tt g_tt F_index_tt F_invoke_tt F_completion_tt F_required_tt F_steps_tt) hZ (hw _ (List.mem_of_getElem? (i := 11) rfl)) (hw _ (List.mem_of_getElem? (i := 7) rfl)) (by decide) (by decide)) (g := (mkF m 318 #[.val (.int p0), .val (.int p1), .val (.int p2), .val (.int p3), .val (.int p4), .val (.int p5), .val (.ref ss), .val (.int (2 : Int32)), .val (.int v25), .val (.int c0), .val (.int c1), .val (.int c2), .val (.int ex), .unset] [(.ref ss), (.int (1 : Int32)), (.int (2147483647 : Int32)), (.int (1 : Int32)), (.long (0 : Int64)), (.ref tt), (.ref tt)])) rfl (by rw [hml]; rfl) (Steps.refl _) (a := tt) (argsL := [(.long (0 : Int64)), (.int (1 : Int32)), (.int (2147483647 : Int32)), (.int (1 : Int32)), (.ref ss)]) (rest := [(.ref tt)]) (lenOf pd_2 rfl) rfl (by show 2 * 0 + _ ≤ _; exact Nat.le_of_eq rfl) (hb hby at_318) (fun _ _ => ⟨rfl, e93, (by decide : 2 + 0 ≤ _), (by decide : 17 + 0 ≤ _)⟩)
    dsimp only [Pt.U, Pt.locs, Pt.cells, Pt.slots] at X94 l94 y94 z94 st94 hQ94
    subst l94 y94 z94
    obtain ⟨rfl, N94q, K94, G94⟩ := hQ94
    have N0 := Fr.app N0 N94q
    have V_ss := V_ss.keep K94 (ninS ne_ss_tt nin0)
    have E_tt := E_tt.keep K94
    have Z0 := Nat.le_trans Z0 K94.1
    have F_steps_tt := G94
    refine own_step (B := T94.setTop (mkF m 321 #[.val (.int p0), .val (.int p1), .val (.int p2), .val (.int p3), .val (.int p4), .val (.int p5), .val (.ref ss), .val (.int (2 : Int32)), .val (.int v25), .val (.int c0), .val (.int c1), .val (.int c2), .val (.int ex), .unset] [(.ref tt)])) (fun t k => st94.trans k) ?_
    refine own_step (B := T94.setTop (mkF m 323 #[.val (.int p0), .val (.int p1), .val (.int p2), .val (.int p3), .val (.int p4), .val (.int p5), .val (.ref ss), .val (.int (2 : Int32)), .val (.int v25), .val (.int c0), .val (.int c1), .val (.int c2), .val (.int ex), .val (.ref tt)] [])) (fun t k => XS.astore X94.here hx rfl (hb hby at_321) rfl rfl (l' := #[.val (.int p0), .val (.int p1), .val (.int p2), .val (.int p3), .val (.int p4), .val (.int p5), .val (.ref ss), .val (.int (2 : Int32)), .val (.int v25), .val (.int c0), .val (.int c1), .val (.int c2), .val (.int ex), .val (.ref tt)]) rfl k) ?_
    refine own_step (B := T94.setTop (mkF m 325 #[.val (.int p0), .val (.int p1), .val (.int p2), .val (.int p3), .val (.int p4), .val (.int p5), .val (.ref ss), .val (.int (2 : Int32)), .val (.int v25), .val (.int c0), .val (.int c1), .val (.int c2), .val (.int ex), .val (.ref tt)] [(.ref tt)])) (fun t k => XS.aload X94.here hx rfl (hb hby at_323) rfl rfl k) ?_
    refine own_step (B := T94.setTop (mkF m 326 #[.val (.int p0), .val (.int p1), .val (.int p2), .val (.int p3), .val (.int p4), .val (.int p5), .val (.ref ss), .val (.int (2 : Int32)), .val (.int v25), .val (.int c0), .val (.int c1), .val (.int c2), .val (.int ex), .val (.ref tt)] [(.int (3 : Int32)), (.ref tt)])) (fun t k => XS.iconst X94.here hx rfl (hb hby at_325) k) ?_
    refine own_step (B := T94.setTop (mkF m 328 #[.val (.int p0), .val (.int p1), .val (.int p2), .val (.int p3), .val (.int p4), .val (.int p5), .val (.ref ss), .val (.int (2 : Int32)), .val (.int v25), .val (.int c0), .val (.int c1), .val (.int c2), .val (.int ex), .val (.ref tt)] [(.int (2 : Int32)), (.int (3 : Int32)), (.ref tt)])) (fun t k => XS.iload X94.here hx rfl (hb hby at_326) rfl k) ?_
    refine own_step (B := T94.setTop (mkF m 329 #[.val (.int p0), .val (.int p1), .val (.int p2), .val (.int p3), .val (.int p4), .val (.int p5), .val (.ref ss), .val (.int (2 : Int32)), .val (.int v25), .val (.int c0), .val (.int c1), .val (.int c2), .val (.int ex), .val (.ref tt)] [(.int (6 : Int32)), (.ref tt)])) (fun t k => XS.imul X94.here hx rfl (hb hby at_328) rfl k) ?_
    obtain ⟨cq95, kq95, q95a, q95b, q95c⟩ := isOf hZ rfl E_tt
    obtain ⟨_, _, ⟨T95, L95, k95, n95⟩, -, X95, ⟨Lc95, hQ95, l95, y95, z95⟩, st95⟩ := X94.virtualBack hx (y := (⟨"com/example/tightrope/tightrope/history/Transaction", "readsFromOutside", "(I)Z"⟩ : MethodName)) (z := (⟨"com/example/tightrope/tightrope/history/Transaction", "readsFromOutside", "(I)Z"⟩ : MethodName)) hown (mvT hZ (hw _ (List.mem_of_getElem? (i := 30) rfl))) (mvT hZ (hw _ (List.mem_of_getElem? (i := 31) rfl))) (notFace_of_selects (args := #[]) (mvT hZ (hw _ (List.mem_of_getElem? (i := 33) rfl)))) (mvT hZ (hw _ (List.mem_of_getElem? (i := 33) rfl))) (mvT hZ (hw _ (List.mem_of_getElem? (i := 32) rfl))) (by decide) (backOf (W := 0) (rmr2 l Z a0 hw [] tt _ _ _ _ _ _ _ _ _ _ _ _ _ _ T94.heap n0 Z0 F_steps_tt V_ss) hZ (hw _ (List.mem_of_getElem? (i := 34) rfl)) (hw _ (List.mem_of_getElem? (i := 7) rfl)) (by decide) (by decide)) q95a q95c (g := (mkF m 329 #[.val (.int p0), .val (.int p1), .val (.int p2), .val (.int p3), .val (.int p4), .val (.int p5), .val (.ref ss), .val (.int (2 : Int32)), .val (.int v25), .val (.int c0), .val (.int c1), .val (.int c2), .val (.int ex), .val (.ref tt)] [(.int (6 : Int32)), (.ref tt)])) rfl (by rw [hml]; rfl) (Steps.refl _) (argsL := [(.int (6 : Int32))]) (rest := []) (lenOf pd_3 rfl) rfl (by show 2 * 0 + _ ≤ _; exact Nat.le_of_eq rfl) (hb hby at_329) (fun _ _ => ⟨rfl, rfl, (by decide : 2 + 0 ≤ _), (by decide : 17 + 0 ≤ _)⟩)
    dsimp only [Pt.U, Pt.locs, Pt.cells, Pt.slots] at X95 l95 y95 z95 st95 hQ95
    subst l95 y95 z95
    obtain ⟨rfl, N95q, e95⟩ := hQ95
    have N0 := Fr.app N0 N95q
    refine own_step (B := T95.setTop (mkF m 332 #[.val (.int p0), .val (.int p1), .val (.int p2), .val (.int p3), .val (.int p4), .val (.int p5), .val (.ref ss), .val (.int (2 : Int32)), .val (.int v25), .val (.int c0), .val (.int c1), .val (.int c2), .val (.int ex), .val (.ref tt)] [(.int (own_ex2 (own_w (p3 &&& (1 : Int32)) v5 v25) (own_w (((p3.toUInt32 >>> ((1 : Int32) &&& 31).toUInt32).toInt32) &&& (1 : Int32)) v15 v25)))])) (fun t k => st95.trans k) ?_
    refine own_step (B := T95.setTop (mkF m 334 #[.val (.int p0), .val (.int p1), .val (.int p2), .val (.int p3), .val (.int p4), .val (.int p5), .val (.ref ss), .val (.int (2 : Int32)), .val (.int v25), .val (.int c0), .val (.int c1), .val (.int c2), .val (.int ex), .val (.ref tt)] [(.int ex), (.int (own_ex2 (own_w (p3 &&& (1 : Int32)) v5 v25) (own_w (((p3.toUInt32 >>> ((1 : Int32) &&& 31).toUInt32).toInt32) &&& (1 : Int32)) v15 v25)))])) (fun t k => XS.iload X95.here hx rfl (hb hby at_332) rfl k) ?_
    refine own_step (B := T95.setTop (mkF m 337 #[.val (.int p0), .val (.int p1), .val (.int p2), .val (.int p3), .val (.int p4), .val (.int p5), .val (.ref ss), .val (.int (2 : Int32)), .val (.int v25), .val (.int c0), .val (.int c1), .val (.int c2), .val (.int ex), .val (.ref tt)] [])) (fun t k => XS.icmpNo X95.here hx rfl (hb hby at_334) rfl (teq (by first | (rw [e_ex, e_c0, e_c1]; done) | (rw [e_ex, e_c0, e_c1]; rfl))).2 k) ?_
    refine own_step (B := T95.setTop (mkF m 338 #[.val (.int p0), .val (.int p1), .val (.int p2), .val (.int p3), .val (.int p4), .val (.int p5), .val (.ref ss), .val (.int (2 : Int32)), .val (.int v25), .val (.int c0), .val (.int c1), .val (.int c2), .val (.int ex), .val (.ref tt)] [(.int (1 : Int32))])) (fun t k => XS.iconst X95.here hx rfl (hb hby at_337) k) ?_
    refine own_step (B := T95.setTop (mkF m 342 #[.val (.int p0), .val (.int p1), .val (.int p2), .val (.int p3), .val (.int p4), .val (.int p5), .val (.ref ss), .val (.int (2 : Int32)), .val (.int v25), .val (.int c0), .val (.int c1), .val (.int c2), .val (.int ex), .val (.ref tt)] [(.int (1 : Int32))])) (fun t k => XS.goto X95.here hx rfl (pc0 := 338) (pc' := 342) rfl (hb hby at_338) (by decide) (by decide) k) ?_
    exact own_retN X95 hx hlk (t := .boolean) Bd.returns (by simp) (hb hby at_342) (by decide) (by decide) (by exact ⟨rfl, N0⟩)
  · skip
    refine own_step (B := T41.setTop (mkF m 185 #[.val (.int p0), .val (.int p1), .val (.int p2), .val (.int p3), .val (.int p4), .val (.int p5), .val (.ref ss), .val (.int (3 : Int32)), .unset, .unset, .unset, .unset, .unset, .unset] [(.ref ss)])) (fun t k => XS.aload X41.here hx rfl (hb hby at_183) rfl rfl k) ?_
    refine own_step (B := T41.setTop (mkF m 186 #[.val (.int p0), .val (.int p1), .val (.int p2), .val (.int p3), .val (.int p4), .val (.int p5), .val (.ref ss), .val (.int (3 : Int32)), .unset, .unset, .unset, .unset, .unset, .unset] [(.int (3 : Int32)), (.ref ss)])) (fun t k => XS.iconst X41.here hx rfl (hb hby at_185) k) ?_
    refine own_step (B := T41.setTop (mkF m 188 #[.val (.int p0), .val (.int p1), .val (.int p2), .val (.int p3), .val (.int p4), .val (.int p5), .val (.ref ss), .val (.int (3 : Int32)), .unset, .unset, .unset, .unset, .unset, .unset] [(.int (3 : Int32)), (.int (3 : Int32)), (.ref ss)])) (fun t k => XS.iload X41.here hx rfl (hb hby at_186) rfl k) ?_
    refine own_step (B := T41.setTop (mkF m 189 #[.val (.int p0), .val (.int p1), .val (.int p2), .val (.int p3), .val (.int p4), .val (.int p5), .val (.ref ss), .val (.int (3 : Int32)), .unset, .unset, .unset, .unset, .unset, .unset] [(.int (9 : Int32)), (.ref ss)])) (fun t k => XS.imul X41.here hx rfl (hb hby at_188) rfl k) ?_
    refine own_step (B := T41.setTop (mkF m 190 #[.val (.int p0), .val (.int p1), .val (.int p2), .val (.int p3), .val (.int p4), .val (.int p5), .val (.ref ss), .val (.int (3 : Int32)), .unset, .unset, .unset, .unset, .unset, .unset] [(.int (1 : Int32)), (.int (9 : Int32)), (.ref ss)])) (fun t k => XS.iconst X41.here hx rfl (hb hby at_189) k) ?_
    refine own_step (B := T41.setTop (mkF m 191 #[.val (.int p0), .val (.int p1), .val (.int p2), .val (.int p3), .val (.int p4), .val (.int p5), .val (.ref ss), .val (.int (3 : Int32)), .unset, .unset, .unset, .unset, .unset, .unset] [(.int (10 : Int32)), (.ref ss)])) (fun t k => XS.iadd X41.here hx rfl (hb hby at_190) rfl k) ?_
    have Vo_96 := V_ss
    obtain ⟨cl_96, Ar_96, q_96, S_96, M_96, H_96, G_96⟩ := Vo_96
    refine own_step (B := T41.setTop (mkF m 192 #[.val (.int p0), .val (.int p1), .val (.int p2), .val (.int p3), .val (.int p4), .val (.int p5), .val (.ref ss), .val (.int (3 : Int32)), .unset, .unset, .unset, .unset, .unset, .unset] [(.int v35)])) (fun t k => X41.iaload hx (j := (10 : Int32)) (v := (.int v35)) (by rw [e41]; exact Ar_96.1) (State.isArrayOf_alike hZ.alike Ar_96.2.1) Ar_96.2.2 (inb_of S_96 ⟨by decide, by decide⟩) (Has.at H_96 (inb_of S_96 ⟨by decide, by decide⟩) rfl) (g := (mkF m 191 #[.val (.int p0), .val (.int p1), .val (.int p2), .val (.int p3), .val (.int p4), .val (.int p5), .val (.ref ss), .val (.int (3 : Int32)), .unset, .unset, .unset, .unset, .unset, .unset] [(.int (10 : Int32)), (.ref ss)])) rfl rfl (hb hby at_191) t k) ?_
    refine own_step (B := T41.setTop (mkF m 194 #[.val (.int p0), .val (.int p1), .val (.int p2), .val (.int p3), .val (.int p4), .val (.int p5), .val (.ref ss), .val (.int (3 : Int32)), .val (.int v35), .unset, .unset, .unset, .unset, .unset] [])) (fun t k => XS.istore X41.here hx rfl (hb hby at_192) rfl (l' := #[.val (.int p0), .val (.int p1), .val (.int p2), .val (.int p3), .val (.int p4), .val (.int p5), .val (.ref ss), .val (.int (3 : Int32)), .val (.int v35), .unset, .unset, .unset, .unset, .unset]) rfl k) ?_
    refine own_step (B := T41.setTop (mkF m 196 #[.val (.int p0), .val (.int p1), .val (.int p2), .val (.int p3), .val (.int p4), .val (.int p5), .val (.ref ss), .val (.int (3 : Int32)), .val (.int v35), .unset, .unset, .unset, .unset, .unset] [(.ref ss)])) (fun t k => XS.aload X41.here hx rfl (hb hby at_194) rfl rfl k) ?_
    refine own_step (B := T41.setTop (mkF m 197 #[.val (.int p0), .val (.int p1), .val (.int p2), .val (.int p3), .val (.int p4), .val (.int p5), .val (.ref ss), .val (.int (3 : Int32)), .val (.int v35), .unset, .unset, .unset, .unset, .unset] [(.int (0 : Int32)), (.ref ss)])) (fun t k => XS.iconst X41.here hx rfl (hb hby at_196) k) ?_
    have Vo_97 := V_ss
    obtain ⟨cl_97, Ar_97, q_97, S_97, M_97, H_97, G_97⟩ := Vo_97
    refine own_step (B := T41.setTop (mkF m 198 #[.val (.int p0), .val (.int p1), .val (.int p2), .val (.int p3), .val (.int p4), .val (.int p5), .val (.ref ss), .val (.int (3 : Int32)), .val (.int v35), .unset, .unset, .unset, .unset, .unset] [(.int (p3 &&& (1 : Int32)))])) (fun t k => X41.iaload hx (j := (0 : Int32)) (v := (.int (p3 &&& (1 : Int32)))) (by rw [e41]; exact Ar_97.1) (State.isArrayOf_alike hZ.alike Ar_97.2.1) Ar_97.2.2 (inb_of S_97 ⟨by decide, by decide⟩) (Has.at H_97 (inb_of S_97 ⟨by decide, by decide⟩) rfl) (g := (mkF m 197 #[.val (.int p0), .val (.int p1), .val (.int p2), .val (.int p3), .val (.int p4), .val (.int p5), .val (.ref ss), .val (.int (3 : Int32)), .val (.int v35), .unset, .unset, .unset, .unset, .unset] [(.int (0 : Int32)), (.ref ss)])) rfl rfl (hb hby at_197) t k) ?_
    refine own_step (B := T41.setTop (mkF m 199 #[.val (.int p0), .val (.int p1), .val (.int p2), .val (.int p3), .val (.int p4), .val (.int p5), .val (.ref ss), .val (.int (3 : Int32)), .val (.int v35), .unset, .unset, .unset, .unset, .unset] [(.int (1 : Int32)), (.int (p3 &&& (1 : Int32)))])) (fun t k => XS.iconst X41.here hx rfl (hb hby at_198) k) ?_
    have J98 : (∀ (T' : State) (ls' : List Loc), Stand p l e room_1 s m #[(.int p0), (.int p1), (.int p2), (.int p3), (.int p4), (.int p5)] below meth c T' ls' 1 12 → T'.heap = h41 → Fr n0 ls' → own_G p.tables e below s (QQ_rm0 Z p0 p1 p2 p3 p4 p5 h0 n0) room_1.cells room_1.slots (T'.setTop (mkF m 216 #[.val (.int p0), .val (.int p1), .val (.int p2), .val (.int p3), .val (.int p4), .val (.int p5), .val (.ref ss), .val (.int (3 : Int32)), .val (.int v35), .unset, .unset, .unset, .unset, .unset] [(.int (if (p3 &&& (1 : Int32)) = (1 : Int32) then (if v5 = v35 then (1 : Int32) else (0 : Int32)) else (0 : Int32)))]))) → own_G p.tables e below s (QQ_rm0 Z p0 p1 p2 p3 p4 p5 h0 n0) room_1.cells room_1.slots (T41.setTop (mkF m 199 #[.val (.int p0), .val (.int p1), .val (.int p2), .val (.int p3), .val (.int p4), .val (.int p5), .val (.ref ss), .val (.int (3 : Int32)), .val (.int v35), .unset, .unset, .unset, .unset, .unset] [(.int (1 : Int32)), (.int (p3 &&& (1 : Int32)))])) := by
      intro hJ
      by_cases hc199 : (p3 &&& (1 : Int32)) = (1 : Int32)
      · skip
        refine own_step (B := T41.setTop (mkF m 202 #[.val (.int p0), .val (.int p1), .val (.int p2), .val (.int p3), .val (.int p4), .val (.int p5), .val (.ref ss), .val (.int (3 : Int32)), .val (.int v35), .unset, .unset, .unset, .unset, .unset] [])) (fun t k => XS.icmpNo X41.here hx rfl (hb hby at_199) rfl (teq hc199).2 k) ?_
        refine own_step (B := T41.setTop (mkF m 204 #[.val (.int p0), .val (.int p1), .val (.int p2), .val (.int p3), .val (.int p4), .val (.int p5), .val (.ref ss), .val (.int (3 : Int32)), .val (.int v35), .unset, .unset, .unset, .unset, .unset] [(.ref ss)])) (fun t k => XS.aload X41.here hx rfl (hb hby at_202) rfl rfl k) ?_
        refine own_step (B := T41.setTop (mkF m 205 #[.val (.int p0), .val (.int p1), .val (.int p2), .val (.int p3), .val (.int p4), .val (.int p5), .val (.ref ss), .val (.int (3 : Int32)), .val (.int v35), .unset, .unset, .unset, .unset, .unset] [(.int (1 : Int32)), (.ref ss)])) (fun t k => XS.iconst X41.here hx rfl (hb hby at_204) k) ?_
        have Vo_99 := V_ss
        obtain ⟨cl_99, Ar_99, q_99, S_99, M_99, H_99, G_99⟩ := Vo_99
        refine own_step (B := T41.setTop (mkF m 206 #[.val (.int p0), .val (.int p1), .val (.int p2), .val (.int p3), .val (.int p4), .val (.int p5), .val (.ref ss), .val (.int (3 : Int32)), .val (.int v35), .unset, .unset, .unset, .unset, .unset] [(.int v5)])) (fun t k => X41.iaload hx (j := (1 : Int32)) (v := (.int v5)) (by rw [e41]; exact Ar_99.1) (State.isArrayOf_alike hZ.alike Ar_99.2.1) Ar_99.2.2 (inb_of S_99 ⟨by decide, by decide⟩) (Has.at H_99 (inb_of S_99 ⟨by decide, by decide⟩) rfl) (g := (mkF m 205 #[.val (.int p0), .val (.int p1), .val (.int p2), .val (.int p3), .val (.int p4), .val (.int p5), .val (.ref ss), .val (.int (3 : Int32)), .val (.int v35), .unset, .unset, .unset, .unset, .unset] [(.int (1 : Int32)), (.ref ss)])) rfl rfl (hb hby at_205) t k) ?_
        refine own_step (B := T41.setTop (mkF m 208 #[.val (.int p0), .val (.int p1), .val (.int p2), .val (.int p3), .val (.int p4), .val (.int p5), .val (.ref ss), .val (.int (3 : Int32)), .val (.int v35), .unset, .unset, .unset, .unset, .unset] [(.int v35), (.int v5)])) (fun t k => XS.iload X41.here hx rfl (hb hby at_206) rfl k) ?_
        by_cases hc208 : v5 = v35
        · skip
          refine own_step (B := T41.setTop (mkF m 211 #[.val (.int p0), .val (.int p1), .val (.int p2), .val (.int p3), .val (.int p4), .val (.int p5), .val (.ref ss), .val (.int (3 : Int32)), .val (.int v35), .unset, .unset, .unset, .unset, .unset] [])) (fun t k => XS.icmpNo X41.here hx rfl (hb hby at_208) rfl (teq hc208).2 k) ?_
          refine own_step (B := T41.setTop (mkF m 212 #[.val (.int p0), .val (.int p1), .val (.int p2), .val (.int p3), .val (.int p4), .val (.int p5), .val (.ref ss), .val (.int (3 : Int32)), .val (.int v35), .unset, .unset, .unset, .unset, .unset] [(.int (1 : Int32))])) (fun t k => XS.iconst X41.here hx rfl (hb hby at_211) k) ?_
          refine own_step (B := T41.setTop (mkF m 216 #[.val (.int p0), .val (.int p1), .val (.int p2), .val (.int p3), .val (.int p4), .val (.int p5), .val (.ref ss), .val (.int (3 : Int32)), .val (.int v35), .unset, .unset, .unset, .unset, .unset] [(.int (1 : Int32))])) (fun t k => XS.goto X41.here hx rfl (pc0 := 212) (pc' := 216) rfl (hb hby at_212) (by decide) (by decide) k) ?_
          try simp only [if_pos hc199, if_pos hc208] at hJ
          exact hJ _ _ X41 e41 N0
        · skip
          refine own_step (B := T41.setTop (mkF m 215 #[.val (.int p0), .val (.int p1), .val (.int p2), .val (.int p3), .val (.int p4), .val (.int p5), .val (.ref ss), .val (.int (3 : Int32)), .val (.int v35), .unset, .unset, .unset, .unset, .unset] [])) (fun t k => XS.icmpYes X41.here hx rfl (pc0 := 208) (pc' := 215) rfl (hb hby at_208) rfl (feq hc208).2 (by decide) (by decide) k) ?_
          refine own_step (B := T41.setTop (mkF m 216 #[.val (.int p0), .val (.int p1), .val (.int p2), .val (.int p3), .val (.int p4), .val (.int p5), .val (.ref ss), .val (.int (3 : Int32)), .val (.int v35), .unset, .unset, .unset, .unset, .unset] [(.int (0 : Int32))])) (fun t k => XS.iconst X41.here hx rfl (hb hby at_215) k) ?_
          try simp only [if_pos hc199, if_neg hc208] at hJ
          exact hJ _ _ X41 e41 N0
      · skip
        refine own_step (B := T41.setTop (mkF m 215 #[.val (.int p0), .val (.int p1), .val (.int p2), .val (.int p3), .val (.int p4), .val (.int p5), .val (.ref ss), .val (.int (3 : Int32)), .val (.int v35), .unset, .unset, .unset, .unset, .unset] [])) (fun t k => XS.icmpYes X41.here hx rfl (pc0 := 199) (pc' := 215) rfl (hb hby at_199) rfl (feq hc199).2 (by decide) (by decide) k) ?_
        refine own_step (B := T41.setTop (mkF m 216 #[.val (.int p0), .val (.int p1), .val (.int p2), .val (.int p3), .val (.int p4), .val (.int p5), .val (.ref ss), .val (.int (3 : Int32)), .val (.int v35), .unset, .unset, .unset, .unset, .unset] [(.int (0 : Int32))])) (fun t k => XS.iconst X41.here hx rfl (hb hby at_215) k) ?_
        try simp only [if_neg hc199] at hJ
        exact hJ _ _ X41 e41 N0
    refine J98 ?_
    clear J98
    intro T100 ls100 X100 e100 N0
    obtain ⟨c0, e_c0⟩ : ∃ z, z = (if (p3 &&& (1 : Int32)) = (1 : Int32) then (if v5 = v35 then (1 : Int32) else (0 : Int32)) else (0 : Int32)) := ⟨_, rfl⟩
    rw [← e_c0]
    refine own_step (B := T100.setTop (mkF m 218 #[.val (.int p0), .val (.int p1), .val (.int p2), .val (.int p3), .val (.int p4), .val (.int p5), .val (.ref ss), .val (.int (3 : Int32)), .val (.int v35), .val (.int c0), .unset, .unset, .unset, .unset] [])) (fun t k => XS.istore X100.here hx rfl (hb hby at_216) rfl (l' := #[.val (.int p0), .val (.int p1), .val (.int p2), .val (.int p3), .val (.int p4), .val (.int p5), .val (.ref ss), .val (.int (3 : Int32)), .val (.int v35), .val (.int c0), .unset, .unset, .unset, .unset]) rfl k) ?_
    refine own_step (B := T100.setTop (mkF m 220 #[.val (.int p0), .val (.int p1), .val (.int p2), .val (.int p3), .val (.int p4), .val (.int p5), .val (.ref ss), .val (.int (3 : Int32)), .val (.int v35), .val (.int c0), .unset, .unset, .unset, .unset] [(.ref ss)])) (fun t k => XS.aload X100.here hx rfl (hb hby at_218) rfl rfl k) ?_
    refine own_step (B := T100.setTop (mkF m 221 #[.val (.int p0), .val (.int p1), .val (.int p2), .val (.int p3), .val (.int p4), .val (.int p5), .val (.ref ss), .val (.int (3 : Int32)), .val (.int v35), .val (.int c0), .unset, .unset, .unset, .unset] [(.int (3 : Int32)), (.ref ss)])) (fun t k => XS.iconst X100.here hx rfl (hb hby at_220) k) ?_
    have Vo_101 := V_ss
    obtain ⟨cl_101, Ar_101, q_101, S_101, M_101, H_101, G_101⟩ := Vo_101
    refine own_step (B := T100.setTop (mkF m 222 #[.val (.int p0), .val (.int p1), .val (.int p2), .val (.int p3), .val (.int p4), .val (.int p5), .val (.ref ss), .val (.int (3 : Int32)), .val (.int v35), .val (.int c0), .unset, .unset, .unset, .unset] [(.int (((p3.toUInt32 >>> ((1 : Int32) &&& 31).toUInt32).toInt32) &&& (1 : Int32)))])) (fun t k => X100.iaload hx (j := (3 : Int32)) (v := (.int (((p3.toUInt32 >>> ((1 : Int32) &&& 31).toUInt32).toInt32) &&& (1 : Int32)))) (by rw [e100]; exact Ar_101.1) (State.isArrayOf_alike hZ.alike Ar_101.2.1) Ar_101.2.2 (inb_of S_101 ⟨by decide, by decide⟩) (Has.at H_101 (inb_of S_101 ⟨by decide, by decide⟩) rfl) (g := (mkF m 221 #[.val (.int p0), .val (.int p1), .val (.int p2), .val (.int p3), .val (.int p4), .val (.int p5), .val (.ref ss), .val (.int (3 : Int32)), .val (.int v35), .val (.int c0), .unset, .unset, .unset, .unset] [(.int (3 : Int32)), (.ref ss)])) rfl rfl (hb hby at_221) t k) ?_
    refine own_step (B := T100.setTop (mkF m 223 #[.val (.int p0), .val (.int p1), .val (.int p2), .val (.int p3), .val (.int p4), .val (.int p5), .val (.ref ss), .val (.int (3 : Int32)), .val (.int v35), .val (.int c0), .unset, .unset, .unset, .unset] [(.int (1 : Int32)), (.int (((p3.toUInt32 >>> ((1 : Int32) &&& 31).toUInt32).toInt32) &&& (1 : Int32)))])) (fun t k => XS.iconst X100.here hx rfl (hb hby at_222) k) ?_
    have J102 : (∀ (T' : State) (ls' : List Loc), Stand p l e room_1 s m #[(.int p0), (.int p1), (.int p2), (.int p3), (.int p4), (.int p5)] below meth c T' ls' 1 12 → T'.heap = h41 → Fr n0 ls' → own_G p.tables e below s (QQ_rm0 Z p0 p1 p2 p3 p4 p5 h0 n0) room_1.cells room_1.slots (T'.setTop (mkF m 240 #[.val (.int p0), .val (.int p1), .val (.int p2), .val (.int p3), .val (.int p4), .val (.int p5), .val (.ref ss), .val (.int (3 : Int32)), .val (.int v35), .val (.int c0), .unset, .unset, .unset, .unset] [(.int (if (((p3.toUInt32 >>> ((1 : Int32) &&& 31).toUInt32).toInt32) &&& (1 : Int32)) = (1 : Int32) then (if v15 = v35 then (1 : Int32) else (0 : Int32)) else (0 : Int32)))]))) → own_G p.tables e below s (QQ_rm0 Z p0 p1 p2 p3 p4 p5 h0 n0) room_1.cells room_1.slots (T100.setTop (mkF m 223 #[.val (.int p0), .val (.int p1), .val (.int p2), .val (.int p3), .val (.int p4), .val (.int p5), .val (.ref ss), .val (.int (3 : Int32)), .val (.int v35), .val (.int c0), .unset, .unset, .unset, .unset] [(.int (1 : Int32)), (.int (((p3.toUInt32 >>> ((1 : Int32) &&& 31).toUInt32).toInt32) &&& (1 : Int32)))])) := by
      intro hJ
      by_cases hc223 : (((p3.toUInt32 >>> ((1 : Int32) &&& 31).toUInt32).toInt32) &&& (1 : Int32)) = (1 : Int32)
      · skip
        refine own_step (B := T100.setTop (mkF m 226 #[.val (.int p0), .val (.int p1), .val (.int p2), .val (.int p3), .val (.int p4), .val (.int p5), .val (.ref ss), .val (.int (3 : Int32)), .val (.int v35), .val (.int c0), .unset, .unset, .unset, .unset] [])) (fun t k => XS.icmpNo X100.here hx rfl (hb hby at_223) rfl (teq hc223).2 k) ?_
        refine own_step (B := T100.setTop (mkF m 228 #[.val (.int p0), .val (.int p1), .val (.int p2), .val (.int p3), .val (.int p4), .val (.int p5), .val (.ref ss), .val (.int (3 : Int32)), .val (.int v35), .val (.int c0), .unset, .unset, .unset, .unset] [(.ref ss)])) (fun t k => XS.aload X100.here hx rfl (hb hby at_226) rfl rfl k) ?_
        refine own_step (B := T100.setTop (mkF m 229 #[.val (.int p0), .val (.int p1), .val (.int p2), .val (.int p3), .val (.int p4), .val (.int p5), .val (.ref ss), .val (.int (3 : Int32)), .val (.int v35), .val (.int c0), .unset, .unset, .unset, .unset] [(.int (4 : Int32)), (.ref ss)])) (fun t k => XS.iconst X100.here hx rfl (hb hby at_228) k) ?_
        have Vo_103 := V_ss
        obtain ⟨cl_103, Ar_103, q_103, S_103, M_103, H_103, G_103⟩ := Vo_103
        refine own_step (B := T100.setTop (mkF m 230 #[.val (.int p0), .val (.int p1), .val (.int p2), .val (.int p3), .val (.int p4), .val (.int p5), .val (.ref ss), .val (.int (3 : Int32)), .val (.int v35), .val (.int c0), .unset, .unset, .unset, .unset] [(.int v15)])) (fun t k => X100.iaload hx (j := (4 : Int32)) (v := (.int v15)) (by rw [e100]; exact Ar_103.1) (State.isArrayOf_alike hZ.alike Ar_103.2.1) Ar_103.2.2 (inb_of S_103 ⟨by decide, by decide⟩) (Has.at H_103 (inb_of S_103 ⟨by decide, by decide⟩) rfl) (g := (mkF m 229 #[.val (.int p0), .val (.int p1), .val (.int p2), .val (.int p3), .val (.int p4), .val (.int p5), .val (.ref ss), .val (.int (3 : Int32)), .val (.int v35), .val (.int c0), .unset, .unset, .unset, .unset] [(.int (4 : Int32)), (.ref ss)])) rfl rfl (hb hby at_229) t k) ?_
        refine own_step (B := T100.setTop (mkF m 232 #[.val (.int p0), .val (.int p1), .val (.int p2), .val (.int p3), .val (.int p4), .val (.int p5), .val (.ref ss), .val (.int (3 : Int32)), .val (.int v35), .val (.int c0), .unset, .unset, .unset, .unset] [(.int v35), (.int v15)])) (fun t k => XS.iload X100.here hx rfl (hb hby at_230) rfl k) ?_
        by_cases hc232 : v15 = v35
        · skip
          refine own_step (B := T100.setTop (mkF m 235 #[.val (.int p0), .val (.int p1), .val (.int p2), .val (.int p3), .val (.int p4), .val (.int p5), .val (.ref ss), .val (.int (3 : Int32)), .val (.int v35), .val (.int c0), .unset, .unset, .unset, .unset] [])) (fun t k => XS.icmpNo X100.here hx rfl (hb hby at_232) rfl (teq hc232).2 k) ?_
          refine own_step (B := T100.setTop (mkF m 236 #[.val (.int p0), .val (.int p1), .val (.int p2), .val (.int p3), .val (.int p4), .val (.int p5), .val (.ref ss), .val (.int (3 : Int32)), .val (.int v35), .val (.int c0), .unset, .unset, .unset, .unset] [(.int (1 : Int32))])) (fun t k => XS.iconst X100.here hx rfl (hb hby at_235) k) ?_
          refine own_step (B := T100.setTop (mkF m 240 #[.val (.int p0), .val (.int p1), .val (.int p2), .val (.int p3), .val (.int p4), .val (.int p5), .val (.ref ss), .val (.int (3 : Int32)), .val (.int v35), .val (.int c0), .unset, .unset, .unset, .unset] [(.int (1 : Int32))])) (fun t k => XS.goto X100.here hx rfl (pc0 := 236) (pc' := 240) rfl (hb hby at_236) (by decide) (by decide) k) ?_
          try simp only [if_pos hc223, if_pos hc232] at hJ
          exact hJ _ _ X100 e100 N0
        · skip
          refine own_step (B := T100.setTop (mkF m 239 #[.val (.int p0), .val (.int p1), .val (.int p2), .val (.int p3), .val (.int p4), .val (.int p5), .val (.ref ss), .val (.int (3 : Int32)), .val (.int v35), .val (.int c0), .unset, .unset, .unset, .unset] [])) (fun t k => XS.icmpYes X100.here hx rfl (pc0 := 232) (pc' := 239) rfl (hb hby at_232) rfl (feq hc232).2 (by decide) (by decide) k) ?_
          refine own_step (B := T100.setTop (mkF m 240 #[.val (.int p0), .val (.int p1), .val (.int p2), .val (.int p3), .val (.int p4), .val (.int p5), .val (.ref ss), .val (.int (3 : Int32)), .val (.int v35), .val (.int c0), .unset, .unset, .unset, .unset] [(.int (0 : Int32))])) (fun t k => XS.iconst X100.here hx rfl (hb hby at_239) k) ?_
          try simp only [if_pos hc223, if_neg hc232] at hJ
          exact hJ _ _ X100 e100 N0
      · skip
        refine own_step (B := T100.setTop (mkF m 239 #[.val (.int p0), .val (.int p1), .val (.int p2), .val (.int p3), .val (.int p4), .val (.int p5), .val (.ref ss), .val (.int (3 : Int32)), .val (.int v35), .val (.int c0), .unset, .unset, .unset, .unset] [])) (fun t k => XS.icmpYes X100.here hx rfl (pc0 := 223) (pc' := 239) rfl (hb hby at_223) rfl (feq hc223).2 (by decide) (by decide) k) ?_
        refine own_step (B := T100.setTop (mkF m 240 #[.val (.int p0), .val (.int p1), .val (.int p2), .val (.int p3), .val (.int p4), .val (.int p5), .val (.ref ss), .val (.int (3 : Int32)), .val (.int v35), .val (.int c0), .unset, .unset, .unset, .unset] [(.int (0 : Int32))])) (fun t k => XS.iconst X100.here hx rfl (hb hby at_239) k) ?_
        try simp only [if_neg hc223] at hJ
        exact hJ _ _ X100 e100 N0
    refine J102 ?_
    clear J102
    intro T104 ls104 X104 e104 N0
    obtain ⟨c1, e_c1⟩ : ∃ z, z = (if (((p3.toUInt32 >>> ((1 : Int32) &&& 31).toUInt32).toInt32) &&& (1 : Int32)) = (1 : Int32) then (if v15 = v35 then (1 : Int32) else (0 : Int32)) else (0 : Int32)) := ⟨_, rfl⟩
    rw [← e_c1]
    refine own_step (B := T104.setTop (mkF m 242 #[.val (.int p0), .val (.int p1), .val (.int p2), .val (.int p3), .val (.int p4), .val (.int p5), .val (.ref ss), .val (.int (3 : Int32)), .val (.int v35), .val (.int c0), .val (.int c1), .unset, .unset, .unset] [])) (fun t k => XS.istore X104.here hx rfl (hb hby at_240) rfl (l' := #[.val (.int p0), .val (.int p1), .val (.int p2), .val (.int p3), .val (.int p4), .val (.int p5), .val (.ref ss), .val (.int (3 : Int32)), .val (.int v35), .val (.int c0), .val (.int c1), .unset, .unset, .unset]) rfl k) ?_
    refine own_step (B := T104.setTop (mkF m 244 #[.val (.int p0), .val (.int p1), .val (.int p2), .val (.int p3), .val (.int p4), .val (.int p5), .val (.ref ss), .val (.int (3 : Int32)), .val (.int v35), .val (.int c0), .val (.int c1), .unset, .unset, .unset] [(.ref ss)])) (fun t k => XS.aload X104.here hx rfl (hb hby at_242) rfl rfl k) ?_
    refine own_step (B := T104.setTop (mkF m 246 #[.val (.int p0), .val (.int p1), .val (.int p2), .val (.int p3), .val (.int p4), .val (.int p5), .val (.ref ss), .val (.int (3 : Int32)), .val (.int v35), .val (.int c0), .val (.int c1), .unset, .unset, .unset] [(.int (6 : Int32)), (.ref ss)])) (fun t k => XS.bipush X104.here hx rfl (hb hby at_244) k) ?_
    have Vo_105 := V_ss
    obtain ⟨cl_105, Ar_105, q_105, S_105, M_105, H_105, G_105⟩ := Vo_105
    refine own_step (B := T104.setTop (mkF m 247 #[.val (.int p0), .val (.int p1), .val (.int p2), .val (.int p3), .val (.int p4), .val (.int p5), .val (.ref ss), .val (.int (3 : Int32)), .val (.int v35), .val (.int c0), .val (.int c1), .unset, .unset, .unset] [(.int (((p3.toUInt32 >>> ((2 : Int32) &&& 31).toUInt32).toInt32) &&& (1 : Int32)))])) (fun t k => X104.iaload hx (j := (6 : Int32)) (v := (.int (((p3.toUInt32 >>> ((2 : Int32) &&& 31).toUInt32).toInt32) &&& (1 : Int32)))) (by rw [e104]; exact Ar_105.1) (State.isArrayOf_alike hZ.alike Ar_105.2.1) Ar_105.2.2 (inb_of S_105 ⟨by decide, by decide⟩) (Has.at H_105 (inb_of S_105 ⟨by decide, by decide⟩) rfl) (g := (mkF m 246 #[.val (.int p0), .val (.int p1), .val (.int p2), .val (.int p3), .val (.int p4), .val (.int p5), .val (.ref ss), .val (.int (3 : Int32)), .val (.int v35), .val (.int c0), .val (.int c1), .unset, .unset, .unset] [(.int (6 : Int32)), (.ref ss)])) rfl rfl (hb hby at_246) t k) ?_
    refine own_step (B := T104.setTop (mkF m 248 #[.val (.int p0), .val (.int p1), .val (.int p2), .val (.int p3), .val (.int p4), .val (.int p5), .val (.ref ss), .val (.int (3 : Int32)), .val (.int v35), .val (.int c0), .val (.int c1), .unset, .unset, .unset] [(.int (1 : Int32)), (.int (((p3.toUInt32 >>> ((2 : Int32) &&& 31).toUInt32).toInt32) &&& (1 : Int32)))])) (fun t k => XS.iconst X104.here hx rfl (hb hby at_247) k) ?_
    have J106 : (∀ (T' : State) (ls' : List Loc), Stand p l e room_1 s m #[(.int p0), (.int p1), (.int p2), (.int p3), (.int p4), (.int p5)] below meth c T' ls' 1 12 → T'.heap = h41 → Fr n0 ls' → own_G p.tables e below s (QQ_rm0 Z p0 p1 p2 p3 p4 p5 h0 n0) room_1.cells room_1.slots (T'.setTop (mkF m 266 #[.val (.int p0), .val (.int p1), .val (.int p2), .val (.int p3), .val (.int p4), .val (.int p5), .val (.ref ss), .val (.int (3 : Int32)), .val (.int v35), .val (.int c0), .val (.int c1), .unset, .unset, .unset] [(.int (if (((p3.toUInt32 >>> ((2 : Int32) &&& 31).toUInt32).toInt32) &&& (1 : Int32)) = (1 : Int32) then (if v25 = v35 then (1 : Int32) else (0 : Int32)) else (0 : Int32)))]))) → own_G p.tables e below s (QQ_rm0 Z p0 p1 p2 p3 p4 p5 h0 n0) room_1.cells room_1.slots (T104.setTop (mkF m 248 #[.val (.int p0), .val (.int p1), .val (.int p2), .val (.int p3), .val (.int p4), .val (.int p5), .val (.ref ss), .val (.int (3 : Int32)), .val (.int v35), .val (.int c0), .val (.int c1), .unset, .unset, .unset] [(.int (1 : Int32)), (.int (((p3.toUInt32 >>> ((2 : Int32) &&& 31).toUInt32).toInt32) &&& (1 : Int32)))])) := by
      intro hJ
      by_cases hc248 : (((p3.toUInt32 >>> ((2 : Int32) &&& 31).toUInt32).toInt32) &&& (1 : Int32)) = (1 : Int32)
      · skip
        refine own_step (B := T104.setTop (mkF m 251 #[.val (.int p0), .val (.int p1), .val (.int p2), .val (.int p3), .val (.int p4), .val (.int p5), .val (.ref ss), .val (.int (3 : Int32)), .val (.int v35), .val (.int c0), .val (.int c1), .unset, .unset, .unset] [])) (fun t k => XS.icmpNo X104.here hx rfl (hb hby at_248) rfl (teq hc248).2 k) ?_
        refine own_step (B := T104.setTop (mkF m 253 #[.val (.int p0), .val (.int p1), .val (.int p2), .val (.int p3), .val (.int p4), .val (.int p5), .val (.ref ss), .val (.int (3 : Int32)), .val (.int v35), .val (.int c0), .val (.int c1), .unset, .unset, .unset] [(.ref ss)])) (fun t k => XS.aload X104.here hx rfl (hb hby at_251) rfl rfl k) ?_
        refine own_step (B := T104.setTop (mkF m 255 #[.val (.int p0), .val (.int p1), .val (.int p2), .val (.int p3), .val (.int p4), .val (.int p5), .val (.ref ss), .val (.int (3 : Int32)), .val (.int v35), .val (.int c0), .val (.int c1), .unset, .unset, .unset] [(.int (7 : Int32)), (.ref ss)])) (fun t k => XS.bipush X104.here hx rfl (hb hby at_253) k) ?_
        have Vo_107 := V_ss
        obtain ⟨cl_107, Ar_107, q_107, S_107, M_107, H_107, G_107⟩ := Vo_107
        refine own_step (B := T104.setTop (mkF m 256 #[.val (.int p0), .val (.int p1), .val (.int p2), .val (.int p3), .val (.int p4), .val (.int p5), .val (.ref ss), .val (.int (3 : Int32)), .val (.int v35), .val (.int c0), .val (.int c1), .unset, .unset, .unset] [(.int v25)])) (fun t k => X104.iaload hx (j := (7 : Int32)) (v := (.int v25)) (by rw [e104]; exact Ar_107.1) (State.isArrayOf_alike hZ.alike Ar_107.2.1) Ar_107.2.2 (inb_of S_107 ⟨by decide, by decide⟩) (Has.at H_107 (inb_of S_107 ⟨by decide, by decide⟩) rfl) (g := (mkF m 255 #[.val (.int p0), .val (.int p1), .val (.int p2), .val (.int p3), .val (.int p4), .val (.int p5), .val (.ref ss), .val (.int (3 : Int32)), .val (.int v35), .val (.int c0), .val (.int c1), .unset, .unset, .unset] [(.int (7 : Int32)), (.ref ss)])) rfl rfl (hb hby at_255) t k) ?_
        refine own_step (B := T104.setTop (mkF m 258 #[.val (.int p0), .val (.int p1), .val (.int p2), .val (.int p3), .val (.int p4), .val (.int p5), .val (.ref ss), .val (.int (3 : Int32)), .val (.int v35), .val (.int c0), .val (.int c1), .unset, .unset, .unset] [(.int v35), (.int v25)])) (fun t k => XS.iload X104.here hx rfl (hb hby at_256) rfl k) ?_
        by_cases hc258 : v25 = v35
        · skip
          refine own_step (B := T104.setTop (mkF m 261 #[.val (.int p0), .val (.int p1), .val (.int p2), .val (.int p3), .val (.int p4), .val (.int p5), .val (.ref ss), .val (.int (3 : Int32)), .val (.int v35), .val (.int c0), .val (.int c1), .unset, .unset, .unset] [])) (fun t k => XS.icmpNo X104.here hx rfl (hb hby at_258) rfl (teq hc258).2 k) ?_
          refine own_step (B := T104.setTop (mkF m 262 #[.val (.int p0), .val (.int p1), .val (.int p2), .val (.int p3), .val (.int p4), .val (.int p5), .val (.ref ss), .val (.int (3 : Int32)), .val (.int v35), .val (.int c0), .val (.int c1), .unset, .unset, .unset] [(.int (1 : Int32))])) (fun t k => XS.iconst X104.here hx rfl (hb hby at_261) k) ?_
          refine own_step (B := T104.setTop (mkF m 266 #[.val (.int p0), .val (.int p1), .val (.int p2), .val (.int p3), .val (.int p4), .val (.int p5), .val (.ref ss), .val (.int (3 : Int32)), .val (.int v35), .val (.int c0), .val (.int c1), .unset, .unset, .unset] [(.int (1 : Int32))])) (fun t k => XS.goto X104.here hx rfl (pc0 := 262) (pc' := 266) rfl (hb hby at_262) (by decide) (by decide) k) ?_
          try simp only [if_pos hc248, if_pos hc258] at hJ
          exact hJ _ _ X104 e104 N0
        · skip
          refine own_step (B := T104.setTop (mkF m 265 #[.val (.int p0), .val (.int p1), .val (.int p2), .val (.int p3), .val (.int p4), .val (.int p5), .val (.ref ss), .val (.int (3 : Int32)), .val (.int v35), .val (.int c0), .val (.int c1), .unset, .unset, .unset] [])) (fun t k => XS.icmpYes X104.here hx rfl (pc0 := 258) (pc' := 265) rfl (hb hby at_258) rfl (feq hc258).2 (by decide) (by decide) k) ?_
          refine own_step (B := T104.setTop (mkF m 266 #[.val (.int p0), .val (.int p1), .val (.int p2), .val (.int p3), .val (.int p4), .val (.int p5), .val (.ref ss), .val (.int (3 : Int32)), .val (.int v35), .val (.int c0), .val (.int c1), .unset, .unset, .unset] [(.int (0 : Int32))])) (fun t k => XS.iconst X104.here hx rfl (hb hby at_265) k) ?_
          try simp only [if_pos hc248, if_neg hc258] at hJ
          exact hJ _ _ X104 e104 N0
      · skip
        refine own_step (B := T104.setTop (mkF m 265 #[.val (.int p0), .val (.int p1), .val (.int p2), .val (.int p3), .val (.int p4), .val (.int p5), .val (.ref ss), .val (.int (3 : Int32)), .val (.int v35), .val (.int c0), .val (.int c1), .unset, .unset, .unset] [])) (fun t k => XS.icmpYes X104.here hx rfl (pc0 := 248) (pc' := 265) rfl (hb hby at_248) rfl (feq hc248).2 (by decide) (by decide) k) ?_
        refine own_step (B := T104.setTop (mkF m 266 #[.val (.int p0), .val (.int p1), .val (.int p2), .val (.int p3), .val (.int p4), .val (.int p5), .val (.ref ss), .val (.int (3 : Int32)), .val (.int v35), .val (.int c0), .val (.int c1), .unset, .unset, .unset] [(.int (0 : Int32))])) (fun t k => XS.iconst X104.here hx rfl (hb hby at_265) k) ?_
        try simp only [if_neg hc248] at hJ
        exact hJ _ _ X104 e104 N0
    refine J106 ?_
    clear J106
    intro T108 ls108 X108 e108 N0
    obtain ⟨c2, e_c2⟩ : ∃ z, z = (if (((p3.toUInt32 >>> ((2 : Int32) &&& 31).toUInt32).toInt32) &&& (1 : Int32)) = (1 : Int32) then (if v25 = v35 then (1 : Int32) else (0 : Int32)) else (0 : Int32)) := ⟨_, rfl⟩
    rw [← e_c2]
    refine own_step (B := T108.setTop (mkF m 268 #[.val (.int p0), .val (.int p1), .val (.int p2), .val (.int p3), .val (.int p4), .val (.int p5), .val (.ref ss), .val (.int (3 : Int32)), .val (.int v35), .val (.int c0), .val (.int c1), .val (.int c2), .unset, .unset] [])) (fun t k => XS.istore X108.here hx rfl (hb hby at_266) rfl (l' := #[.val (.int p0), .val (.int p1), .val (.int p2), .val (.int p3), .val (.int p4), .val (.int p5), .val (.ref ss), .val (.int (3 : Int32)), .val (.int v35), .val (.int c0), .val (.int c1), .val (.int c2), .unset, .unset]) rfl k) ?_
    refine own_step (B := T108.setTop (mkF m 270 #[.val (.int p0), .val (.int p1), .val (.int p2), .val (.int p3), .val (.int p4), .val (.int p5), .val (.ref ss), .val (.int (3 : Int32)), .val (.int v35), .val (.int c0), .val (.int c1), .val (.int c2), .unset, .unset] [(.int (3 : Int32))])) (fun t k => XS.iload X108.here hx rfl (hb hby at_268) rfl k) ?_
    have J109 : (∀ (T' : State) (ls' : List Loc), Stand p l e room_1 s m #[(.int p0), (.int p1), (.int p2), (.int p3), (.int p4), (.int p5)] below meth c T' ls' 1 12 → T'.heap = h41 → Fr n0 ls' → own_G p.tables e below s (QQ_rm0 Z p0 p1 p2 p3 p4 p5 h0 n0) room_1.cells room_1.slots (T'.setTop (mkF m 305 #[.val (.int p0), .val (.int p1), .val (.int p2), .val (.int p3), .val (.int p4), .val (.int p5), .val (.ref ss), .val (.int (3 : Int32)), .val (.int v35), .val (.int c0), .val (.int c1), .val (.int c2), .unset, .unset] [(.int (if c0 = (0 : Int32) then (if c1 = (0 : Int32) then (if c2 = (0 : Int32) then (1 : Int32) else (0 : Int32)) else (0 : Int32)) else (0 : Int32)))]))) → own_G p.tables e below s (QQ_rm0 Z p0 p1 p2 p3 p4 p5 h0 n0) room_1.cells room_1.slots (T108.setTop (mkF m 270 #[.val (.int p0), .val (.int p1), .val (.int p2), .val (.int p3), .val (.int p4), .val (.int p5), .val (.ref ss), .val (.int (3 : Int32)), .val (.int v35), .val (.int c0), .val (.int c1), .val (.int c2), .unset, .unset] [(.int (3 : Int32))])) := by
      intro hJ
      refine own_step (B := T108.setTop (mkF m 273 #[.val (.int p0), .val (.int p1), .val (.int p2), .val (.int p3), .val (.int p4), .val (.int p5), .val (.ref ss), .val (.int (3 : Int32)), .val (.int v35), .val (.int c0), .val (.int c1), .val (.int c2), .unset, .unset] [])) (fun t k => XS.ifNo X108.here hx rfl (hb hby at_270) rfl ((if0 _ _).trans (tlt (by decide)).2.2.2) k) ?_
      refine own_step (B := T108.setTop (mkF m 275 #[.val (.int p0), .val (.int p1), .val (.int p2), .val (.int p3), .val (.int p4), .val (.int p5), .val (.ref ss), .val (.int (3 : Int32)), .val (.int v35), .val (.int c0), .val (.int c1), .val (.int c2), .unset, .unset] [(.int c0)])) (fun t k => XS.iload X108.here hx rfl (hb hby at_273) rfl k) ?_
      by_cases hc275 : c0 = (0 : Int32)
      · skip
        refine own_step (B := T108.setTop (mkF m 278 #[.val (.int p0), .val (.int p1), .val (.int p2), .val (.int p3), .val (.int p4), .val (.int p5), .val (.ref ss), .val (.int (3 : Int32)), .val (.int v35), .val (.int c0), .val (.int c1), .val (.int c2), .unset, .unset] [])) (fun t k => XS.ifNo X108.here hx rfl (hb hby at_275) rfl ((if0 _ _).trans (teq hc275).2) k) ?_
        refine own_step (B := T108.setTop (mkF m 280 #[.val (.int p0), .val (.int p1), .val (.int p2), .val (.int p3), .val (.int p4), .val (.int p5), .val (.ref ss), .val (.int (3 : Int32)), .val (.int v35), .val (.int c0), .val (.int c1), .val (.int c2), .unset, .unset] [(.int (3 : Int32))])) (fun t k => XS.iload X108.here hx rfl (hb hby at_278) rfl k) ?_
        refine own_step (B := T108.setTop (mkF m 281 #[.val (.int p0), .val (.int p1), .val (.int p2), .val (.int p3), .val (.int p4), .val (.int p5), .val (.ref ss), .val (.int (3 : Int32)), .val (.int v35), .val (.int c0), .val (.int c1), .val (.int c2), .unset, .unset] [(.int (1 : Int32)), (.int (3 : Int32))])) (fun t k => XS.iconst X108.here hx rfl (hb hby at_280) k) ?_
        refine own_step (B := T108.setTop (mkF m 284 #[.val (.int p0), .val (.int p1), .val (.int p2), .val (.int p3), .val (.int p4), .val (.int p5), .val (.ref ss), .val (.int (3 : Int32)), .val (.int v35), .val (.int c0), .val (.int c1), .val (.int c2), .unset, .unset] [])) (fun t k => XS.icmpNo X108.here hx rfl (hb hby at_281) rfl (tlt (by decide)).2.2.2 k) ?_
        refine own_step (B := T108.setTop (mkF m 286 #[.val (.int p0), .val (.int p1), .val (.int p2), .val (.int p3), .val (.int p4), .val (.int p5), .val (.ref ss), .val (.int (3 : Int32)), .val (.int v35), .val (.int c0), .val (.int c1), .val (.int c2), .unset, .unset] [(.int c1)])) (fun t k => XS.iload X108.here hx rfl (hb hby at_284) rfl k) ?_
        by_cases hc286 : c1 = (0 : Int32)
        · skip
          refine own_step (B := T108.setTop (mkF m 289 #[.val (.int p0), .val (.int p1), .val (.int p2), .val (.int p3), .val (.int p4), .val (.int p5), .val (.ref ss), .val (.int (3 : Int32)), .val (.int v35), .val (.int c0), .val (.int c1), .val (.int c2), .unset, .unset] [])) (fun t k => XS.ifNo X108.here hx rfl (hb hby at_286) rfl ((if0 _ _).trans (teq hc286).2) k) ?_
          refine own_step (B := T108.setTop (mkF m 291 #[.val (.int p0), .val (.int p1), .val (.int p2), .val (.int p3), .val (.int p4), .val (.int p5), .val (.ref ss), .val (.int (3 : Int32)), .val (.int v35), .val (.int c0), .val (.int c1), .val (.int c2), .unset, .unset] [(.int (3 : Int32))])) (fun t k => XS.iload X108.here hx rfl (hb hby at_289) rfl k) ?_
          refine own_step (B := T108.setTop (mkF m 292 #[.val (.int p0), .val (.int p1), .val (.int p2), .val (.int p3), .val (.int p4), .val (.int p5), .val (.ref ss), .val (.int (3 : Int32)), .val (.int v35), .val (.int c0), .val (.int c1), .val (.int c2), .unset, .unset] [(.int (2 : Int32)), (.int (3 : Int32))])) (fun t k => XS.iconst X108.here hx rfl (hb hby at_291) k) ?_
          refine own_step (B := T108.setTop (mkF m 295 #[.val (.int p0), .val (.int p1), .val (.int p2), .val (.int p3), .val (.int p4), .val (.int p5), .val (.ref ss), .val (.int (3 : Int32)), .val (.int v35), .val (.int c0), .val (.int c1), .val (.int c2), .unset, .unset] [])) (fun t k => XS.icmpNo X108.here hx rfl (hb hby at_292) rfl (tlt (by decide)).2.2.2 k) ?_
          refine own_step (B := T108.setTop (mkF m 297 #[.val (.int p0), .val (.int p1), .val (.int p2), .val (.int p3), .val (.int p4), .val (.int p5), .val (.ref ss), .val (.int (3 : Int32)), .val (.int v35), .val (.int c0), .val (.int c1), .val (.int c2), .unset, .unset] [(.int c2)])) (fun t k => XS.iload X108.here hx rfl (hb hby at_295) rfl k) ?_
          by_cases hc297 : c2 = (0 : Int32)
          · skip
            refine own_step (B := T108.setTop (mkF m 300 #[.val (.int p0), .val (.int p1), .val (.int p2), .val (.int p3), .val (.int p4), .val (.int p5), .val (.ref ss), .val (.int (3 : Int32)), .val (.int v35), .val (.int c0), .val (.int c1), .val (.int c2), .unset, .unset] [])) (fun t k => XS.ifNo X108.here hx rfl (hb hby at_297) rfl ((if0 _ _).trans (teq hc297).2) k) ?_
            refine own_step (B := T108.setTop (mkF m 301 #[.val (.int p0), .val (.int p1), .val (.int p2), .val (.int p3), .val (.int p4), .val (.int p5), .val (.ref ss), .val (.int (3 : Int32)), .val (.int v35), .val (.int c0), .val (.int c1), .val (.int c2), .unset, .unset] [(.int (1 : Int32))])) (fun t k => XS.iconst X108.here hx rfl (hb hby at_300) k) ?_
            refine own_step (B := T108.setTop (mkF m 305 #[.val (.int p0), .val (.int p1), .val (.int p2), .val (.int p3), .val (.int p4), .val (.int p5), .val (.ref ss), .val (.int (3 : Int32)), .val (.int v35), .val (.int c0), .val (.int c1), .val (.int c2), .unset, .unset] [(.int (1 : Int32))])) (fun t k => XS.goto X108.here hx rfl (pc0 := 301) (pc' := 305) rfl (hb hby at_301) (by decide) (by decide) k) ?_
            try simp only [if_pos hc275, if_pos hc286, if_pos hc297] at hJ
            exact hJ _ _ X108 e108 N0
          · skip
            refine own_step (B := T108.setTop (mkF m 304 #[.val (.int p0), .val (.int p1), .val (.int p2), .val (.int p3), .val (.int p4), .val (.int p5), .val (.ref ss), .val (.int (3 : Int32)), .val (.int v35), .val (.int c0), .val (.int c1), .val (.int c2), .unset, .unset] [])) (fun t k => XS.ifYes X108.here hx rfl (pc0 := 297) (pc' := 304) rfl (hb hby at_297) rfl ((if0 _ _).trans (feq hc297).2) (by decide) (by decide) k) ?_
            refine own_step (B := T108.setTop (mkF m 305 #[.val (.int p0), .val (.int p1), .val (.int p2), .val (.int p3), .val (.int p4), .val (.int p5), .val (.ref ss), .val (.int (3 : Int32)), .val (.int v35), .val (.int c0), .val (.int c1), .val (.int c2), .unset, .unset] [(.int (0 : Int32))])) (fun t k => XS.iconst X108.here hx rfl (hb hby at_304) k) ?_
            try simp only [if_pos hc275, if_pos hc286, if_neg hc297] at hJ
            exact hJ _ _ X108 e108 N0
        · skip
          refine own_step (B := T108.setTop (mkF m 304 #[.val (.int p0), .val (.int p1), .val (.int p2), .val (.int p3), .val (.int p4), .val (.int p5), .val (.ref ss), .val (.int (3 : Int32)), .val (.int v35), .val (.int c0), .val (.int c1), .val (.int c2), .unset, .unset] [])) (fun t k => XS.ifYes X108.here hx rfl (pc0 := 286) (pc' := 304) rfl (hb hby at_286) rfl ((if0 _ _).trans (feq hc286).2) (by decide) (by decide) k) ?_
          refine own_step (B := T108.setTop (mkF m 305 #[.val (.int p0), .val (.int p1), .val (.int p2), .val (.int p3), .val (.int p4), .val (.int p5), .val (.ref ss), .val (.int (3 : Int32)), .val (.int v35), .val (.int c0), .val (.int c1), .val (.int c2), .unset, .unset] [(.int (0 : Int32))])) (fun t k => XS.iconst X108.here hx rfl (hb hby at_304) k) ?_
          try simp only [if_pos hc275, if_neg hc286] at hJ
          exact hJ _ _ X108 e108 N0
      · skip
        refine own_step (B := T108.setTop (mkF m 304 #[.val (.int p0), .val (.int p1), .val (.int p2), .val (.int p3), .val (.int p4), .val (.int p5), .val (.ref ss), .val (.int (3 : Int32)), .val (.int v35), .val (.int c0), .val (.int c1), .val (.int c2), .unset, .unset] [])) (fun t k => XS.ifYes X108.here hx rfl (pc0 := 275) (pc' := 304) rfl (hb hby at_275) rfl ((if0 _ _).trans (feq hc275).2) (by decide) (by decide) k) ?_
        refine own_step (B := T108.setTop (mkF m 305 #[.val (.int p0), .val (.int p1), .val (.int p2), .val (.int p3), .val (.int p4), .val (.int p5), .val (.ref ss), .val (.int (3 : Int32)), .val (.int v35), .val (.int c0), .val (.int c1), .val (.int c2), .unset, .unset] [(.int (0 : Int32))])) (fun t k => XS.iconst X108.here hx rfl (hb hby at_304) k) ?_
        try simp only [if_neg hc275] at hJ
        exact hJ _ _ X108 e108 N0
    refine J109 ?_
    clear J109
    intro T110 ls110 X110 e110 N0
    obtain ⟨ex, e_ex⟩ : ∃ z, z = (if c0 = (0 : Int32) then (if c1 = (0 : Int32) then (if c2 = (0 : Int32) then (1 : Int32) else (0 : Int32)) else (0 : Int32)) else (0 : Int32)) := ⟨_, rfl⟩
    rw [← e_ex]
    refine own_step (B := T110.setTop (mkF m 307 #[.val (.int p0), .val (.int p1), .val (.int p2), .val (.int p3), .val (.int p4), .val (.int p5), .val (.ref ss), .val (.int (3 : Int32)), .val (.int v35), .val (.int c0), .val (.int c1), .val (.int c2), .val (.int ex), .unset] [])) (fun t k => XS.istore X110.here hx rfl (hb hby at_305) rfl (l' := #[.val (.int p0), .val (.int p1), .val (.int p2), .val (.int p3), .val (.int p4), .val (.int p5), .val (.ref ss), .val (.int (3 : Int32)), .val (.int v35), .val (.int c0), .val (.int c1), .val (.int c2), .val (.int ex), .unset]) rfl k) ?_
    obtain ⟨T111, h111, X111, e111, E111, A111, D111, -, st111⟩ := newO X110 hx hZ hown (hw _ (List.mem_of_getElem? (i := 5) rfl)) (hw _ (List.mem_of_getElem? (i := 6) rfl)) (hw _ (List.mem_of_getElem? (i := 7) rfl)) e110 (g := (mkF m 307 #[.val (.int p0), .val (.int p1), .val (.int p2), .val (.int p3), .val (.int p4), .val (.int p5), .val (.ref ss), .val (.int (3 : Int32)), .val (.int v35), .val (.int c0), .val (.int c1), .val (.int c2), .val (.int ex), .unset] [])) rfl (hb hby at_307) (by decide) (by decide)
    obtain ⟨tt, g111⟩ : ∃ z, z = h41.size := ⟨_, rfl⟩
    rw [← g111] at A111 D111 st111
    have g_tt : n0 ≤ tt := Nat.le_trans Z0 (Nat.le_of_eq g111.symm)
    have ne_ss_tt : ss ≠ tt := Nat.ne_of_lt (Nat.lt_of_lt_of_le V_ss.lt (Nat.le_of_eq g111.symm))
    have V_ss := V_ss.ext E111
    have Z0 := Nat.le_trans Z0 E111.1
    have E_tt := A111
    have F_index_tt : Fld Z h111 tt "com/example/tightrope/tightrope/history/Transaction" "index" "J" (.long (0 : Int64)) := D111 (Or.inr (hw _ (List.mem_of_getElem? (i := 21) rfl))) (ty := .long) (by decide)
    have F_invoke_tt : Fld Z h111 tt "com/example/tightrope/tightrope/history/Transaction" "invoke" "I" (.int (0 : Int32)) := D111 (Or.inr (hw _ (List.mem_of_getElem? (i := 23) rfl))) (ty := .int) (by decide)
    have F_completion_tt : Fld Z h111 tt "com/example/tightrope/tightrope/history/Transaction" "completion" "I" (.int (0 : Int32)) := D111 (Or.inr (hw _ (List.mem_of_getElem? (i := 25) rfl))) (ty := .int) (by decide)
    have F_required_tt : Fld Z h111 tt "com/example/tightrope/tightrope/history/Transaction" "required" "Z" (.int (0 : Int32)) := D111 (Or.inr (hw _ (List.mem_of_getElem? (i := 27) rfl))) (ty := .boolean) (by decide)
    have F_steps_tt : Fld Z h111 tt "com/example/tightrope/tightrope/history/Transaction" "steps" "[I" .null := D111 (Or.inr (hw _ (List.mem_of_getElem? (i := 29) rfl))) (ty := (.array .int)) (by decide)
    refine own_step (B := T111.setTop (mkF m 310 #[.val (.int p0), .val (.int p1), .val (.int p2), .val (.int p3), .val (.int p4), .val (.int p5), .val (.ref ss), .val (.int (3 : Int32)), .val (.int v35), .val (.int c0), .val (.int c1), .val (.int c2), .val (.int ex), .unset] [(.ref tt)])) (fun t k => st111 t k) ?_
    refine own_step (B := T111.setTop (mkF m 311 #[.val (.int p0), .val (.int p1), .val (.int p2), .val (.int p3), .val (.int p4), .val (.int p5), .val (.ref ss), .val (.int (3 : Int32)), .val (.int v35), .val (.int c0), .val (.int c1), .val (.int c2), .val (.int ex), .unset] [(.ref tt), (.ref tt)])) (fun t k => XS.dup X111.here hx rfl (hb hby at_310) rfl rfl k) ?_
    refine own_step (B := T111.setTop (mkF m 312 #[.val (.int p0), .val (.int p1), .val (.int p2), .val (.int p3), .val (.int p4), .val (.int p5), .val (.ref ss), .val (.int (3 : Int32)), .val (.int v35), .val (.int c0), .val (.int c1), .val (.int c2), .val (.int ex), .unset] [(.long (0 : Int64)), (.ref tt), (.ref tt)])) (fun t k => XS.lconst X111.here hx rfl (hb hby at_311) k) ?_
    refine own_step (B := T111.setTop (mkF m 313 #[.val (.int p0), .val (.int p1), .val (.int p2), .val (.int p3), .val (.int p4), .val (.int p5), .val (.ref ss), .val (.int (3 : Int32)), .val (.int v35), .val (.int c0), .val (.int c1), .val (.int c2), .val (.int ex), .unset] [(.int (1 : Int32)), (.long (0 : Int64)), (.ref tt), (.ref tt)])) (fun t k => XS.iconst X111.here hx rfl (hb hby at_312) k) ?_
    refine own_step (B := T111.setTop (mkF m 315 #[.val (.int p0), .val (.int p1), .val (.int p2), .val (.int p3), .val (.int p4), .val (.int p5), .val (.ref ss), .val (.int (3 : Int32)), .val (.int v35), .val (.int c0), .val (.int c1), .val (.int c2), .val (.int ex), .unset] [(.int (2147483647 : Int32)), (.int (1 : Int32)), (.long (0 : Int64)), (.ref tt), (.ref tt)])) (fun t k => X111.ldcInt hx hown (mvT hZ (hw _ (List.mem_of_getElem? (i := 8) rfl))) (g := (mkF m 313 #[.val (.int p0), .val (.int p1), .val (.int p2), .val (.int p3), .val (.int p4), .val (.int p5), .val (.ref ss), .val (.int (3 : Int32)), .val (.int v35), .val (.int c0), .val (.int c1), .val (.int c2), .val (.int ex), .unset] [(.int (1 : Int32)), (.long (0 : Int64)), (.ref tt), (.ref tt)])) rfl (hb hby at_313) t k) ?_
    refine own_step (B := T111.setTop (mkF m 316 #[.val (.int p0), .val (.int p1), .val (.int p2), .val (.int p3), .val (.int p4), .val (.int p5), .val (.ref ss), .val (.int (3 : Int32)), .val (.int v35), .val (.int c0), .val (.int c1), .val (.int c2), .val (.int ex), .unset] [(.int (1 : Int32)), (.int (2147483647 : Int32)), (.int (1 : Int32)), (.long (0 : Int64)), (.ref tt), (.ref tt)])) (fun t k => XS.iconst X111.here hx rfl (hb hby at_315) k) ?_
    refine own_step (B := T111.setTop (mkF m 318 #[.val (.int p0), .val (.int p1), .val (.int p2), .val (.int p3), .val (.int p4), .val (.int p5), .val (.ref ss), .val (.int (3 : Int32)), .val (.int v35), .val (.int c0), .val (.int c1), .val (.int c2), .val (.int ex), .unset] [(.ref ss), (.int (1 : Int32)), (.int (2147483647 : Int32)), (.int (1 : Int32)), (.long (0 : Int64)), (.ref tt), (.ref tt)])) (fun t k => XS.aload X111.here hx rfl (hb hby at_316) rfl rfl k) ?_
    obtain ⟨_, _, ⟨T112, L112, k112, n112⟩, -, X112, ⟨Lc112, hQ112, l112, y112, z112⟩, st112⟩ := X111.specialBack hx (y := (⟨"com/example/tightrope/tightrope/history/Transaction", "<init>", "(JIIZ[I)V"⟩ : MethodName)) rfl hown (mvT hZ (hw _ (List.mem_of_getElem? (i := 9) rfl))) (mvT hZ (hw _ (List.mem_of_getElem? (i := 10) rfl))) (mvT hZ (hw _ (List.mem_of_getElem? (i := 11) rfl))) (by decide) (backOf (W := 1) (rm2 l Z a0 hw [] tt (0 : Int64) (1 : Int32) (2147483647 : Int32) (1 : Int32) ss  h111 n0 Z0 E_tt g_tt F_index_tt F_invoke_tt F_completion_tt F_required_tt F_steps_tt) hZ (hw _ (List.mem_of_getElem? (i := 11) rfl)) (hw _ (List.mem_of_getElem? (i := 7) rfl)) (by decide) (by decide)) (g := (mkF m 318 #[.val (.int p0), .val (.int p1), .val (.int p2), .val (.int p3), .val (.int p4), .val (.int p5), .val (.ref ss), .val (.int (3 : Int32)), .val (.int v35), .val (.int c0), .val (.int c1), .val (.int c2), .val (.int ex), .unset] [(.ref ss), (.int (1 : Int32)), (.int (2147483647 : Int32)), (.int (1 : Int32)), (.long (0 : Int64)), (.ref tt), (.ref tt)])) rfl (by rw [hml]; rfl) (Steps.refl _) (a := tt) (argsL := [(.long (0 : Int64)), (.int (1 : Int32)), (.int (2147483647 : Int32)), (.int (1 : Int32)), (.ref ss)]) (rest := [(.ref tt)]) (lenOf pd_2 rfl) rfl (by show 2 * 0 + _ ≤ _; exact Nat.le_of_eq rfl) (hb hby at_318) (fun _ _ => ⟨rfl, e111, (by decide : 2 + 0 ≤ _), (by decide : 17 + 0 ≤ _)⟩)
    dsimp only [Pt.U, Pt.locs, Pt.cells, Pt.slots] at X112 l112 y112 z112 st112 hQ112
    subst l112 y112 z112
    obtain ⟨rfl, N112q, K112, G112⟩ := hQ112
    have N0 := Fr.app N0 N112q
    have V_ss := V_ss.keep K112 (ninS ne_ss_tt nin0)
    have E_tt := E_tt.keep K112
    have Z0 := Nat.le_trans Z0 K112.1
    have F_steps_tt := G112
    refine own_step (B := T112.setTop (mkF m 321 #[.val (.int p0), .val (.int p1), .val (.int p2), .val (.int p3), .val (.int p4), .val (.int p5), .val (.ref ss), .val (.int (3 : Int32)), .val (.int v35), .val (.int c0), .val (.int c1), .val (.int c2), .val (.int ex), .unset] [(.ref tt)])) (fun t k => st112.trans k) ?_
    refine own_step (B := T112.setTop (mkF m 323 #[.val (.int p0), .val (.int p1), .val (.int p2), .val (.int p3), .val (.int p4), .val (.int p5), .val (.ref ss), .val (.int (3 : Int32)), .val (.int v35), .val (.int c0), .val (.int c1), .val (.int c2), .val (.int ex), .val (.ref tt)] [])) (fun t k => XS.astore X112.here hx rfl (hb hby at_321) rfl rfl (l' := #[.val (.int p0), .val (.int p1), .val (.int p2), .val (.int p3), .val (.int p4), .val (.int p5), .val (.ref ss), .val (.int (3 : Int32)), .val (.int v35), .val (.int c0), .val (.int c1), .val (.int c2), .val (.int ex), .val (.ref tt)]) rfl k) ?_
    refine own_step (B := T112.setTop (mkF m 325 #[.val (.int p0), .val (.int p1), .val (.int p2), .val (.int p3), .val (.int p4), .val (.int p5), .val (.ref ss), .val (.int (3 : Int32)), .val (.int v35), .val (.int c0), .val (.int c1), .val (.int c2), .val (.int ex), .val (.ref tt)] [(.ref tt)])) (fun t k => XS.aload X112.here hx rfl (hb hby at_323) rfl rfl k) ?_
    refine own_step (B := T112.setTop (mkF m 326 #[.val (.int p0), .val (.int p1), .val (.int p2), .val (.int p3), .val (.int p4), .val (.int p5), .val (.ref ss), .val (.int (3 : Int32)), .val (.int v35), .val (.int c0), .val (.int c1), .val (.int c2), .val (.int ex), .val (.ref tt)] [(.int (3 : Int32)), (.ref tt)])) (fun t k => XS.iconst X112.here hx rfl (hb hby at_325) k) ?_
    refine own_step (B := T112.setTop (mkF m 328 #[.val (.int p0), .val (.int p1), .val (.int p2), .val (.int p3), .val (.int p4), .val (.int p5), .val (.ref ss), .val (.int (3 : Int32)), .val (.int v35), .val (.int c0), .val (.int c1), .val (.int c2), .val (.int ex), .val (.ref tt)] [(.int (3 : Int32)), (.int (3 : Int32)), (.ref tt)])) (fun t k => XS.iload X112.here hx rfl (hb hby at_326) rfl k) ?_
    refine own_step (B := T112.setTop (mkF m 329 #[.val (.int p0), .val (.int p1), .val (.int p2), .val (.int p3), .val (.int p4), .val (.int p5), .val (.ref ss), .val (.int (3 : Int32)), .val (.int v35), .val (.int c0), .val (.int c1), .val (.int c2), .val (.int ex), .val (.ref tt)] [(.int (9 : Int32)), (.ref tt)])) (fun t k => XS.imul X112.here hx rfl (hb hby at_328) rfl k) ?_
    obtain ⟨cq113, kq113, q113a, q113b, q113c⟩ := isOf hZ rfl E_tt
    obtain ⟨_, _, ⟨T113, L113, k113, n113⟩, -, X113, ⟨Lc113, hQ113, l113, y113, z113⟩, st113⟩ := X112.virtualBack hx (y := (⟨"com/example/tightrope/tightrope/history/Transaction", "readsFromOutside", "(I)Z"⟩ : MethodName)) (z := (⟨"com/example/tightrope/tightrope/history/Transaction", "readsFromOutside", "(I)Z"⟩ : MethodName)) hown (mvT hZ (hw _ (List.mem_of_getElem? (i := 30) rfl))) (mvT hZ (hw _ (List.mem_of_getElem? (i := 31) rfl))) (notFace_of_selects (args := #[]) (mvT hZ (hw _ (List.mem_of_getElem? (i := 33) rfl)))) (mvT hZ (hw _ (List.mem_of_getElem? (i := 33) rfl))) (mvT hZ (hw _ (List.mem_of_getElem? (i := 32) rfl))) (by decide) (backOf (W := 0) (rmr3 l Z a0 hw [] tt _ _ _ _ _ _ _ _ _ _ _ _ _ _ T112.heap n0 Z0 F_steps_tt V_ss) hZ (hw _ (List.mem_of_getElem? (i := 34) rfl)) (hw _ (List.mem_of_getElem? (i := 7) rfl)) (by decide) (by decide)) q113a q113c (g := (mkF m 329 #[.val (.int p0), .val (.int p1), .val (.int p2), .val (.int p3), .val (.int p4), .val (.int p5), .val (.ref ss), .val (.int (3 : Int32)), .val (.int v35), .val (.int c0), .val (.int c1), .val (.int c2), .val (.int ex), .val (.ref tt)] [(.int (9 : Int32)), (.ref tt)])) rfl (by rw [hml]; rfl) (Steps.refl _) (argsL := [(.int (9 : Int32))]) (rest := []) (lenOf pd_3 rfl) rfl (by show 2 * 0 + _ ≤ _; exact Nat.le_of_eq rfl) (hb hby at_329) (fun _ _ => ⟨rfl, rfl, (by decide : 2 + 0 ≤ _), (by decide : 17 + 0 ≤ _)⟩)
    dsimp only [Pt.U, Pt.locs, Pt.cells, Pt.slots] at X113 l113 y113 z113 st113 hQ113
    subst l113 y113 z113
    obtain ⟨rfl, N113q, e113⟩ := hQ113
    have N0 := Fr.app N0 N113q
    refine own_step (B := T113.setTop (mkF m 332 #[.val (.int p0), .val (.int p1), .val (.int p2), .val (.int p3), .val (.int p4), .val (.int p5), .val (.ref ss), .val (.int (3 : Int32)), .val (.int v35), .val (.int c0), .val (.int c1), .val (.int c2), .val (.int ex), .val (.ref tt)] [(.int (own_ex3 (own_w (p3 &&& (1 : Int32)) v5 v35) (own_w (((p3.toUInt32 >>> ((1 : Int32) &&& 31).toUInt32).toInt32) &&& (1 : Int32)) v15 v35) (own_w (((p3.toUInt32 >>> ((2 : Int32) &&& 31).toUInt32).toInt32) &&& (1 : Int32)) v25 v35)))])) (fun t k => st113.trans k) ?_
    refine own_step (B := T113.setTop (mkF m 334 #[.val (.int p0), .val (.int p1), .val (.int p2), .val (.int p3), .val (.int p4), .val (.int p5), .val (.ref ss), .val (.int (3 : Int32)), .val (.int v35), .val (.int c0), .val (.int c1), .val (.int c2), .val (.int ex), .val (.ref tt)] [(.int ex), (.int (own_ex3 (own_w (p3 &&& (1 : Int32)) v5 v35) (own_w (((p3.toUInt32 >>> ((1 : Int32) &&& 31).toUInt32).toInt32) &&& (1 : Int32)) v15 v35) (own_w (((p3.toUInt32 >>> ((2 : Int32) &&& 31).toUInt32).toInt32) &&& (1 : Int32)) v25 v35)))])) (fun t k => XS.iload X113.here hx rfl (hb hby at_332) rfl k) ?_
    refine own_step (B := T113.setTop (mkF m 337 #[.val (.int p0), .val (.int p1), .val (.int p2), .val (.int p3), .val (.int p4), .val (.int p5), .val (.ref ss), .val (.int (3 : Int32)), .val (.int v35), .val (.int c0), .val (.int c1), .val (.int c2), .val (.int ex), .val (.ref tt)] [])) (fun t k => XS.icmpNo X113.here hx rfl (hb hby at_334) rfl (teq (by first | (rw [e_ex, e_c0, e_c1, e_c2]; done) | (rw [e_ex, e_c0, e_c1, e_c2]; rfl))).2 k) ?_
    refine own_step (B := T113.setTop (mkF m 338 #[.val (.int p0), .val (.int p1), .val (.int p2), .val (.int p3), .val (.int p4), .val (.int p5), .val (.ref ss), .val (.int (3 : Int32)), .val (.int v35), .val (.int c0), .val (.int c1), .val (.int c2), .val (.int ex), .val (.ref tt)] [(.int (1 : Int32))])) (fun t k => XS.iconst X113.here hx rfl (hb hby at_337) k) ?_
    refine own_step (B := T113.setTop (mkF m 342 #[.val (.int p0), .val (.int p1), .val (.int p2), .val (.int p3), .val (.int p4), .val (.int p5), .val (.ref ss), .val (.int (3 : Int32)), .val (.int v35), .val (.int c0), .val (.int c1), .val (.int c2), .val (.int ex), .val (.ref tt)] [(.int (1 : Int32))])) (fun t k => XS.goto X113.here hx rfl (pc0 := 338) (pc' := 342) rfl (hb hby at_338) (by decide) (by decide) k) ?_
    exact own_retN X113 hx hlk (t := .boolean) Bd.returns (by simp) (hb hby at_342) (by decide) (by decide) (by exact ⟨rfl, N0⟩)
set_option maxRecDepth 65536 in
set_option maxHeartbeats 40000000 in
theorem comes_1 {Post : Tables → Env → Array Value → State → Outcome → State → Prop} (hpost : ∀ tb e args s v u, (limb_1_1.after args s (.returned v) u = true ∧ limb_1_2.after args s (.returned v) u = true ∧ True) → FrameEnd s (.returned v) u (Jvm.fieldLocs frame_1_writes args s ++ Jvm.arrayLocs frame_1_arrays args s ++ Jvm.staticLocs frame_1_statics s) 16 128 → Post tb e args s (.returned v) u) :
    ArmFor flags0 classFile x code maxLocals ret World_1 tables_1 room_1 Calls_1 rest_1 Pre_1 Post := by
  intro l hfl _ _ p e ha hc hk s m args below hf hA hF happ hP
  obtain ⟨hcalls, hrest, hpre⟩ := hP
  obtain ⟨-, -, -, hnamed, -, -, -, hat⟩ := (Spec.applies_iff hf).mp happ
  obtain ⟨hg, hn⟩ := and_e (Cond.before_iff.mp (show (Jvm.Cond.and given_1 narrow_1).before args s = true from hpre))
  obtain ⟨g0, k0⟩ := and_e hg
  obtain ⟨g1, k1⟩ := and_e k0
  obtain ⟨g2, k2⟩ := and_e k1
  obtain ⟨g3, k3⟩ := and_e k2
  obtain ⟨g4, k4⟩ := and_e k3
  obtain ⟨g5, k5⟩ := and_e k4
  obtain ⟨w0, w1, w2, w3, w4, w5, rfl⟩ : ∃ w0 w1 w2 w3 w4 w5 : Value, args = #[w0, w1, w2, w3, w4, w5] := by
    have hs : args.size = 6 := by simpa [Cond.value, given_1] using g0
    obtain ⟨L⟩ := args
    match L, hs with
    | [w0, w1, w2, w3, w4, w5], _ => exact ⟨w0, w1, w2, w3, w4, w5, rfl⟩
  have hw := fun d (hd : d ∈ tables_1) => atoms_spec (ws := Jvm.Cond.code x code maxLocals ret :: tables_1) hat d (List.mem_cons_of_mem _ hd)
  have hfit : Fit s := fun {y c} hc i hi => by
    obtain ⟨ha, rfl⟩ := Array.getElem?_eq_some_iff.mp hc
    have q := List.all_eq_true.mp ((Array.all_eq_true_iff_forall_mem.mp hF) _ (Array.getElem_mem ha)) i (List.mem_range.mpr hi)
    simpa [Array.getElem?_eq_getElem hi] using q
  obtain ⟨i0, ei0⟩ := is_v g1
  obtain rfl : w0 = (.int i0) := Option.some.inj ei0
  obtain ⟨i1, ei1⟩ := is_v g2
  obtain rfl : w1 = (.int i1) := Option.some.inj ei1
  obtain ⟨i2, ei2⟩ := is_v g3
  obtain rfl : w2 = (.int i2) := Option.some.inj ei2
  obtain ⟨i3, ei3⟩ := is_v g4
  obtain rfl : w3 = (.int i3) := Option.some.inj ei3
  obtain ⟨i4, ei4⟩ := is_v g5
  obtain rfl : w4 = (.int i4) := Option.some.inj ei4
  obtain ⟨i5, ei5⟩ := is_v k5
  obtain rfl : w5 = (.int i5) := Option.some.inj ei5
  obtain ⟨n, o, h1, h2, h3, _, L, rfl, ⟨rfl, N⟩, hq⟩ := rm0 l s _ hw tables_1 i0 i1 i2 i3 i4 i5 s.heap s.heap.size (Nat.le_refl _)  p e ha hc hk s m _ below hf ((Spec.applies_iff_loose hf).mp happ).1 ⟨rfl, State.Warmed39.refl s, rfl⟩ trivial
  refine ⟨n, _, h1, h2, h3, hpost _ _ _ _ _ _ ⟨Cond.after_iff.mpr rfl, Cond.after_iff.mpr (eq_i res_at (Term.int_eval (1)) rfl), trivial⟩ ⟨hq.1, hq.2.1, (hq.2.2.sift fun y hy => Or.inr (N y hy)).mono (by decide) (by decide)⟩⟩
theorem main_1_1 : Claimed_1_1 := comes_1 fun _ _ _ _ _ _ h hF => ⟨h.1, hF⟩
theorem main_1_2 : Claimed_1_2 := comes_1 fun _ _ _ _ _ _ h hF => ⟨h.2.1, hF⟩
end Jvm.Pilot.@@N@@
namespace Jvm.Pilot.@@N@@
open Jvm Jvm.ClassFile Sem Op Lib Jvm.Free Jvm.Stand Jvm.Pilot.@@N@@.Jvm.D
/-! MADE BY PROGRAM (witnessworld.py) out of the Statement's table words and the real class files: 10 classes; the members and pool entries that the words name. The judged class is class 1, her method 2. -/
namespace start1
open Jvm.ClassFile
def u (s : String) : CpInfo := .utf8 (stringToUtf16 s)
/-- a pool by its gaps: so many unusable entries, then the entry; so many at the end -/
def gap : Nat → List CpInfo → List CpInfo
  | 0, r => r
  | n + 1, r => .unusable :: gap n r
def poolList (es : List (Nat × CpInfo)) (last : Nat) : List CpInfo := es.foldr (fun e r => gap e.1 (e.2 :: r)) (gap last [])
def pool (es : List (Nat × CpInfo)) (last : Nat) : Array CpInfo := ⟨poolList es last⟩
def fileOf (pool : Array CpInfo) (this : Nat) (attrs : Array Attribute := #[]) (ms : Array MethodInfo := #[]) (fl : Nat := 33) (sup : Nat := 0) (ifs : Array Nat := #[]) (fds : Array FieldInfo := #[]) : ClassFile where
  minorVersion := 0
  majorVersion := 65
  constantPool := pool
  accessFlags := fl
  thisClass := this
  superClass := sup
  interfaces := ifs
  fields := fds
  methods := ms
  attributes := attrs
def plain (name : String) (sup : Option ClassId) : Class where
  name := name
  kind := .ordinary
  loader := none
  accessFlags := 33
  super := sup
  interfaces := #[]
  cf := none
  fields := #[]
  methods := #[]
  instanceTypes := #[]
  staticTypes := #[]
  resolved := #[]
  callSites := []
  init := .initialized
  statics := none
  mirror := none

def pool0 : Array CpInfo := pool [(5, u "<init>"), (0, u "()V"), (1, .class_ 10), (1, u "java/lang/Object")] 113

def k0c0 : Code := { maxStack := 0, maxLocals := 1, code := object_method_1_code, exceptionTable := #[], attributes := #[] }
def k0m0 : Method := { name := "<init>", desc := "()V", sig := { parameters := [], returnType := none }, accessFlags := 1, code := some k0c0 }
/-- java/lang/Object -/
def k0 : Class := { plain "java/lang/Object" none with
  accessFlags := 33
  interfaces := #[]
  cf := some (fileOf pool0 8 #[] #[{ accessFlags := 1, nameIndex := 5, descriptorIndex := 6, attributes := #[] }] 33 0 #[] #[])
  fields := #[]
  methods := #[k0m0]
  instanceTypes := #[]
  staticTypes := #[]
  resolved := Array.replicate 124 none
  statics := none }

def pool1 : Array CpInfo := pool [(2, .class_ 4), (1, u "java/lang/Object"), (0, u "<init>"), (0, u "()V"), (0, .methodref 8 9), (0, .class_ 10), (0, .nameAndType 11 12), (0, u "com/example/tightrope/tightrope/history/TransactionReadsFromOutsidePinLaw"), (0, u "pick"), (0, u "(IIII)I"), (0, .class_ 14), (0, u "com/example/tightrope/tightrope/history/Transaction"), (0, .integer 2147483647), (0, .methodref 13 17), (0, .nameAndType 5 18), (0, u "(JIIZ[I)V"), (0, .methodref 13 20), (0, .nameAndType 21 22), (0, u "readsFromOutside"), (0, u "(I)Z"), (3, u "law"), (0, u "(IIIIII)Z")] 4

def k1m0 : Method := { name := "<init>", desc := "()V", sig := { parameters := [], returnType := none }, accessFlags := 1, code := none }
def k1c1 : Code := { maxStack := 2, maxLocals := 4, code := method_2_code, exceptionTable := #[], attributes := #[] }
def k1m1 : Method := { name := "pick", desc := "(IIII)I", sig := { parameters := [.int, .int, .int, .int], returnType := some .int }, accessFlags := 10, code := some k1c1 }
def k1c2 : Code := { maxStack := 8, maxLocals := 14, code := code, exceptionTable := #[], attributes := #[] }
def k1m2 : Method := { name := "law", desc := "(IIIIII)Z", sig := { parameters := [.int, .int, .int, .int, .int, .int], returnType := some .boolean }, accessFlags := 9, code := some k1c2 }
/-- com/example/tightrope/tightrope/history/TransactionReadsFromOutsidePinLaw -/
def k1 : Class := { plain "com/example/tightrope/tightrope/history/TransactionReadsFromOutsidePinLaw" (some 0) with
  accessFlags := 49
  interfaces := #[]
  cf := some (fileOf pool1 8 #[] #[{ accessFlags := 1, nameIndex := 5, descriptorIndex := 6, attributes := #[] }, { accessFlags := 10, nameIndex := 11, descriptorIndex := 12, attributes := #[] }, { accessFlags := 9, nameIndex := 26, descriptorIndex := 27, attributes := #[] }] 49 2 #[] #[])
  fields := #[]
  methods := #[k1m0, k1m1, k1m2]
  instanceTypes := #[]
  staticTypes := #[]
  resolved := Array.replicate 32 none
  statics := none }

def pool2 : Array CpInfo := pool [(1, .methodref 2 3), (0, .class_ 4), (0, .nameAndType 5 6), (0, u "java/lang/Object"), (0, u "<init>"), (0, u "()V"), (0, .class_ 8), (0, u "java/lang/Record")] 13

def k2c0 : Code := { maxStack := 1, maxLocals := 1, code := jdk_30_method_1_code, exceptionTable := #[], attributes := #[] }
def k2m0 : Method := { name := "<init>", desc := "()V", sig := { parameters := [], returnType := none }, accessFlags := 4, code := some k2c0 }
/-- java/lang/Record -/
def k2 : Class := { plain "java/lang/Record" (some 0) with
  accessFlags := 1057
  interfaces := #[]
  cf := some (fileOf pool2 7 #[] #[{ accessFlags := 4, nameIndex := 5, descriptorIndex := 6, attributes := #[] }] 1057 2 #[] #[])
  fields := #[]
  methods := #[k2m0]
  instanceTypes := #[]
  staticTypes := #[]
  resolved := Array.replicate 22 none
  statics := none }

def pool3 : Array CpInfo := pool [(3, .methodref 4 5), (0, .class_ 6), (0, .nameAndType 7 8), (0, u "java/lang/Record"), (0, u "<init>"), (0, u "()V"), (0, .fieldref 10 11), (0, .class_ 12), (0, .nameAndType 13 14), (0, u "com/example/tightrope/tightrope/history/Transaction"), (0, u "index"), (0, u "J"), (0, .fieldref 10 16), (0, .nameAndType 17 18), (0, u "invoke"), (0, u "I"), (0, .fieldref 10 20), (0, .nameAndType 21 18), (0, u "completion"), (0, .fieldref 10 23), (0, .nameAndType 24 25), (0, u "required"), (0, u "Z"), (0, .fieldref 10 27), (0, .nameAndType 28 29), (0, u "steps"), (0, u "[I"), (24, u "NEVER"), (2, u "READ"), (1, u "WRITE"), (1, u "(JIIZ[I)V"), (8, u "readsFromOutside"), (0, u "(I)Z")] 31

def k3c0 : Code := { maxStack := 3, maxLocals := 7, code := prog_64_method_1_code, exceptionTable := #[], attributes := #[] }
def k3m0 : Method := { name := "<init>", desc := "(JIIZ[I)V", sig := { parameters := [.long, .int, .int, .boolean, (.array .int)], returnType := none }, accessFlags := 0, code := some k3c0 }
def k3c1 : Code := { maxStack := 4, maxLocals := 3, code := prog_64_method_4_code, exceptionTable := #[], attributes := #[] }
def k3m1 : Method := { name := "readsFromOutside", desc := "(I)Z", sig := { parameters := [.int], returnType := some .boolean }, accessFlags := 0, code := some k3c1 }
/-- com/example/tightrope/tightrope/history/Transaction -/
def k3 : Class := { plain "com/example/tightrope/tightrope/history/Transaction" (some 2) with
  accessFlags := 48
  interfaces := #[]
  cf := some (fileOf pool3 10 #[] #[{ accessFlags := 0, nameIndex := 7, descriptorIndex := 61, attributes := #[] }, { accessFlags := 0, nameIndex := 70, descriptorIndex := 71, attributes := #[] }] 48 4 #[] #[{ accessFlags := 18, nameIndex := 13, descriptorIndex := 14, attributes := #[] }, { accessFlags := 18, nameIndex := 17, descriptorIndex := 18, attributes := #[] }, { accessFlags := 18, nameIndex := 21, descriptorIndex := 18, attributes := #[] }, { accessFlags := 18, nameIndex := 24, descriptorIndex := 25, attributes := #[] }, { accessFlags := 18, nameIndex := 28, descriptorIndex := 29, attributes := #[] }, { accessFlags := 24, nameIndex := 54, descriptorIndex := 18, attributes := #[] }, { accessFlags := 24, nameIndex := 57, descriptorIndex := 18, attributes := #[] }, { accessFlags := 24, nameIndex := 59, descriptorIndex := 18, attributes := #[] }])
  fields := #[{ name := "index", type := .long, accessFlags := 18, slot := 0, constantValue := 0 }, { name := "invoke", type := .int, accessFlags := 18, slot := 1, constantValue := 0 }, { name := "completion", type := .int, accessFlags := 18, slot := 2, constantValue := 0 }, { name := "required", type := .boolean, accessFlags := 18, slot := 3, constantValue := 0 }, { name := "steps", type := (.array .int), accessFlags := 18, slot := 4, constantValue := 0 }, { name := "NEVER", type := .int, accessFlags := 24, slot := 0, constantValue := 0 }, { name := "READ", type := .int, accessFlags := 24, slot := 1, constantValue := 0 }, { name := "WRITE", type := .int, accessFlags := 24, slot := 2, constantValue := 0 }]
  methods := #[k3m0, k3m1]
  instanceTypes := #[.long, .int, .int, .boolean, (.array .int)]
  staticTypes := #[.int, .int, .int]
  resolved := Array.replicate 103 none
  statics := none }

def pool4 : Array CpInfo := pool [(1, u "java/lang/Cloneable"), (0, .class_ 1), (0, u "java/lang/Object"), (0, .class_ 3)] 3

/-- java/lang/Cloneable -/
def k4 : Class := { plain "java/lang/Cloneable" (some 0) with
  accessFlags := 1537
  interfaces := #[]
  cf := some (fileOf pool4 2 #[] #[] 1537 4 #[] #[])
  fields := #[]
  methods := #[]
  instanceTypes := #[]
  staticTypes := #[]
  resolved := Array.replicate 8 none
  statics := none }

def pool5 : Array CpInfo := pool [(1, u "java/io/Serializable"), (0, .class_ 1), (0, u "java/lang/Object"), (0, .class_ 3)] 3

/-- java/io/Serializable -/
def k5 : Class := { plain "java/io/Serializable" (some 0) with
  accessFlags := 1537
  interfaces := #[]
  cf := some (fileOf pool5 2 #[] #[] 1537 4 #[] #[])
  fields := #[]
  methods := #[]
  instanceTypes := #[]
  staticTypes := #[]
  resolved := Array.replicate 8 none
  statics := none }

/-- the primitive byte -/
def k6 : Class := { plain "byte" none with kind := .primitive 'B', accessFlags := 0x411 }
/-- [B -/
def k7 : Class := { plain "[B" (some 0) with kind := .array 6 .byte, interfaces := #[4, 5], accessFlags := 1041 }

/-- the primitive int -/
def k8 : Class := { plain "int" none with kind := .primitive 'I', accessFlags := 0x411 }
/-- [I -/
def k9 : Class := { plain "[I" (some 0) with kind := .array 8 .int, interfaces := #[4, 5], accessFlags := 1041 }

def heap : Heap := #[]
def classes : Array Class := #[k0, k1, k2, k3, k4, k5, k6, k7, k8, k9]
def interned : List (Array UInt16 × Addr) := []
def slotsUsed : Nat := 0
def theMethod : MethodId := ⟨1, 2⟩
def args0 : Array Value := #[.int 1, .int 2, .int 3, .int 4, .int 5, .int 6]
def aboutOver (below : List Frame) : State where
  vm := { classes := classes, interned := interned.toArray }
  heap := heap
  slotsUsed := slotsUsed
  threads := #[{ frames := .invoking theMethod args0 :: below }]
def below0 : List Frame := [.native { method := ⟨0, 0⟩, args := #[] }]
def about1 : State := aboutOver below0
def p0 : Program := .bare "" "" ""
def e0 : Env := launch0.env 0 0 0
theorem w_frames : about1.frames = Frame.invoking theMethod args0 :: below0 := rfl
set_option maxRecDepth 65536 in
theorem w_args : argsFit about1.vm theMethod args0 = true := by decide +kernel
set_option maxRecDepth 65536 in
theorem w_heap : heapFits about1 = true := by decide +kernel
set_option maxRecDepth 65536 in
theorem w_runnable : about1.curStatus? = some .runnable := by decide +kernel
set_option maxRecDepth 65536 in
theorem w_alone : about1.alone = true := by decide +kernel
set_option maxRecDepth 65536 in
theorem w_named : about1.methodNamed? x = some theMethod := by decide +kernel
set_option maxRecDepth 65536 in
theorem w_hears : about1.hears theMethod below0 = true := by decide +kernel
set_option maxRecDepth 65536 in
theorem w_ripe : about1.ripe theMethod args0 below0 = true := by decide +kernel
theorem w_running : about1.status = .running := rfl
set_option maxRecDepth 65536 in
theorem w_room : about1.hasRoom e0.platform room_1 = true :=
  launch0.hasRoom_least _ room_1 (by decide +kernel) (by decide +kernel) (by decide +kernel) (by decide +kernel) (by decide +kernel) (by decide +kernel)
theorem allAtoms_all (ts : List Jvm.Cond) (a : Array Jvm.Value) (st : Jvm.State) : (allAtoms ts).before a st = ts.all (fun c => c.before a st) := by
  induction ts with
  | nil => rfl
  | cons c t ih =>
    show (Jvm.Cond.and c (allAtoms t)).before a st = _
    rw [Jvm.Cond.before_and, ih, List.all_cons]
def words1 : List Jvm.Cond := Jvm.Cond.code x code maxLocals ret :: tables_1
/-- a 'code' word, met by the world's own term for the bytes: nothing is compared byte by byte -/
theorem code_word {y : MethodName} {bytes : ByteArray} {mx : Nat} {rt : Option FieldType} {a : Array Value} {s : State} {m : MethodId} {meth : Method} {c : Code} (h1 : s.methodNamed? y = some m) (h2 : s.vm.method? m = some meth) (h3 : meth.code = some c) (h4 : c.code = bytes)
    (h5 : (c.maxLocals == mx && c.exceptionTable.isEmpty && decide (c.maxStack ≤ mostOperands) && decide (meth.sig.returnType = rt) && !meth.locks && decide (parseMethodDescriptor y.desc = some meth.sig)) = true) : (Jvm.Cond.code y bytes mx rt).before a s = true := by
  simp only [Bool.and_eq_true, beq_iff_eq, Bool.not_eq_true', decide_eq_true_eq] at h5
  obtain ⟨⟨⟨⟨⟨g1, g2⟩, g3⟩, g4⟩, g5⟩, g6⟩ := h5
  simp [Cond.before, Cond.holds, Cond.value, h1, h2, h3, h4, g1, g2, g3, g4, g5, g6]
def isCode : Jvm.Cond → Bool
  | .code _ _ _ _ => true
  | _ => false
theorem all_split {L : List Jvm.Cond} {P : Jvm.Cond → Bool} (h1 : L.all (fun c => isCode c || P c) = true) (h2 : ∀ c ∈ L.filter isCode, P c = true) : L.all P = true := by
  refine List.all_eq_true.mpr fun c hc => ?_
  have h := List.all_eq_true.mp h1 c hc
  rcases Bool.eq_false_or_eq_true (isCode c) with hi | hi
  · exact h2 c (List.mem_filter.mpr ⟨hc, hi⟩)
  · simpa [hi] using h
set_option maxRecDepth 65536 in
theorem w_c0 : (Jvm.Cond.code x code maxLocals ret).before args0 about1 = true := code_word (m := ⟨1, 2⟩) (meth := k1m2) (c := k1c2) (by decide +kernel) rfl rfl rfl (by decide +kernel)
set_option maxRecDepth 65536 in
theorem w_c1 : (Jvm.Cond.code ({ cls := "com/example/tightrope/tightrope/history/TransactionReadsFromOutsidePinLaw", name := "pick", desc := "(IIII)I" } : Jvm.MethodName) method_2_code (4 : Nat) (Option.some Jvm.ClassFile.FieldType.int)).before args0 about1 = true := code_word (m := ⟨1, 1⟩) (meth := k1m1) (c := k1c1) (by decide +kernel) rfl rfl rfl (by decide +kernel)
set_option maxRecDepth 65536 in
theorem w_c2 : (Jvm.Cond.code ({ cls := "com/example/tightrope/tightrope/history/Transaction", name := "<init>", desc := "(JIIZ[I)V" } : Jvm.MethodName) prog_64_method_1_code (7 : Nat) (Option.none : Option Jvm.ClassFile.FieldType)).before args0 about1 = true := code_word (m := ⟨3, 0⟩) (meth := k3m0) (c := k3c0) (by decide +kernel) rfl rfl rfl (by decide +kernel)
set_option maxRecDepth 65536 in
theorem w_c3 : (Jvm.Cond.code ({ cls := "java/lang/Record", name := "<init>", desc := "()V" } : Jvm.MethodName) jdk_30_method_1_code (1 : Nat) (Option.none : Option Jvm.ClassFile.FieldType)).before args0 about1 = true := code_word (m := ⟨2, 0⟩) (meth := k2m0) (c := k2c0) (by decide +kernel) rfl rfl rfl (by decide +kernel)
set_option maxRecDepth 65536 in
theorem w_c4 : (Jvm.Cond.code ({ cls := "java/lang/Object", name := "<init>", desc := "()V" } : Jvm.MethodName) object_method_1_code (1 : Nat) (Option.none : Option Jvm.ClassFile.FieldType)).before args0 about1 = true := code_word (m := ⟨0, 0⟩) (meth := k0m0) (c := k0c0) (by decide +kernel) rfl rfl rfl (by decide +kernel)
set_option maxRecDepth 65536 in
theorem w_c5 : (Jvm.Cond.code ({ cls := "com/example/tightrope/tightrope/history/Transaction", name := "readsFromOutside", desc := "(I)Z" } : Jvm.MethodName) prog_64_method_4_code (3 : Nat) (Option.some Jvm.ClassFile.FieldType.boolean)).before args0 about1 = true := code_word (m := ⟨3, 1⟩) (meth := k3m1) (c := k3c1) (by decide +kernel) rfl rfl rfl (by decide +kernel)
def codes1 : List Jvm.Cond := [Jvm.Cond.code x code maxLocals ret, Jvm.Cond.code ({ cls := "com/example/tightrope/tightrope/history/TransactionReadsFromOutsidePinLaw", name := "pick", desc := "(IIII)I" } : Jvm.MethodName) method_2_code (4 : Nat) (Option.some Jvm.ClassFile.FieldType.int), Jvm.Cond.code ({ cls := "com/example/tightrope/tightrope/history/Transaction", name := "<init>", desc := "(JIIZ[I)V" } : Jvm.MethodName) prog_64_method_1_code (7 : Nat) (Option.none : Option Jvm.ClassFile.FieldType), Jvm.Cond.code ({ cls := "java/lang/Record", name := "<init>", desc := "()V" } : Jvm.MethodName) jdk_30_method_1_code (1 : Nat) (Option.none : Option Jvm.ClassFile.FieldType), Jvm.Cond.code ({ cls := "java/lang/Object", name := "<init>", desc := "()V" } : Jvm.MethodName) object_method_1_code (1 : Nat) (Option.none : Option Jvm.ClassFile.FieldType), Jvm.Cond.code ({ cls := "com/example/tightrope/tightrope/history/Transaction", name := "readsFromOutside", desc := "(I)Z" } : Jvm.MethodName) prog_64_method_4_code (3 : Nat) (Option.some Jvm.ClassFile.FieldType.boolean)]
set_option maxRecDepth 65536 in
theorem codes_eq : words1.filter isCode = codes1 := rfl
theorem w_codes : ∀ c ∈ words1.filter isCode, c.before args0 about1 = true := by
  rw [codes_eq]
  intro c hc
  simp only [codes1, List.mem_cons, List.not_mem_nil, or_false] at hc
  rcases hc with rfl | rfl | rfl | rfl | rfl | rfl
  · exact w_c0
  · exact w_c1
  · exact w_c2
  · exact w_c3
  · exact w_c4
  · exact w_c5
set_option maxRecDepth 65536 in
theorem w_t1 : (words1.take 24).all (fun c => isCode c || c.before args0 about1) = true := by decide +kernel
set_option maxRecDepth 65536 in
theorem w_t2 : (words1.drop 24).all (fun c => isCode c || c.before args0 about1) = true := by decide +kernel
theorem w_tables : (allAtoms (Jvm.Cond.code x code maxLocals ret :: tables_1)).before args0 about1 = true := by
  rw [allAtoms_all]
  show words1.all (fun c => c.before args0 about1) = true
  refine all_split ?_ w_codes
  rw [← List.take_append_drop 24 words1, List.all_append, w_t1, w_t2]
  rfl
set_option maxRecDepth 65536 in
theorem w_case : (Jvm.Cond.and given_1 narrow_1).before args0 about1 = true := by decide +kernel
theorem w_applies : (headSpec (Jvm.Cond.code x code maxLocals ret :: tables_1) room_1).applies x e0.platform about1 = true :=
  (Spec.applies_iff w_frames).mpr ⟨w_running, w_runnable, w_alone, w_named, w_hears, w_ripe, w_room, w_tables⟩
theorem atStart : AtStart classFile x code maxLocals ret World_1 tables_1 room_1 Calls_1 rest_1 Pre_1 launch0 p0 e0 about1 theMethod args0 below0 :=
  ⟨lists_1, trivial, launch0.admits_env _ _ _, launch0.least_env, fairChoices_fair.cas, fairChoices_fair.clock, w_frames, w_args, w_heap, w_applies, trivial, trivial, w_case⟩
end start1
theorem witness_1 : WitnessClaimed_1 := ⟨start1.p0, start1.e0, start1.about1, start1.theMethod, start1.args0, start1.below0, start1.atStart⟩
end Jvm.Pilot.@@N@@
