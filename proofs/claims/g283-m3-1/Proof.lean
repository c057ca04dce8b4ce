import JvmDerived
import JvmDerived.Pilot.@@N@@Statement
import JvmDerived.Pilot.@@N@@Code
set_option linter.unusedVariables false
set_option linter.unusedSimpArgs false
namespace Jvm.Pilot.@@N@@
open Jvm Jvm.ClassFile Sem Op Lib Jvm.Free Jvm.Stand Jvm.LawKit Jvm.RoadKit Bundle Jvm.Pilot.@@N@@.Jvm.D
/-! 0. the frame of a walk: from state A the body comes to an end of which Q holds -/
def own_G (tb : Tables) (e : Env) (below : List Frame) (s : State) (Q : Option Value → Heap → List Loc → Prop) (k n : Nat) (A : State) : Prop :=
  ∃ t o, Steps tb e below A t ∧ t.status = .running ∧ Ended t below o ∧ ∃ v L, o = .returned v ∧ Q v t.heap L ∧ FrameEnd s o t L k n
theorem own_step {tb : Tables} {e : Env} {below : List Frame} {s : State} {Q : Option Value → Heap → List Loc → Prop} {k n : Nat} {A B : State}
    (h : ∀ t, Steps tb e below B t → Steps tb e below A t) (g : own_G tb e below s Q k n B) : own_G tb e below s Q k n A := by
  obtain ⟨t, o, h1, h2⟩ := g
  exact ⟨t, o, h t h1, h2⟩
section Rets
variable {p : Program} {l : Launch} {e : Env} {R : Room} {s : State} {m : MethodId} {args : Array Value} {below : List Frame} {meth : Method} {c : Code} {T : State} {locs : List Loc} {cells slots : Nat} {Q : Option Value → Heap → List Loc → Prop} {k n : Nat}
theorem own_out (X : Stand p l e R s m args below meth c T locs cells slots) {v : Option Value} (hv : meth.sig.returnType = none → v = none) (hlk : meth.locks = false) {F : JFrame}
    (hs : ∀ fs, (∀ (f : JFrame) (acts : List Action), f.method = m → f.locked = none → f.entered = [] → (doReturn e (T.setTop f) acts v).1 = T.setFrames fs) → Steps p.tables e below (T.setTop F) (T.setFrames fs))
    (hk : cells ≤ k) (hn : slots ≤ n) (hQ : Q v T.heap locs) : own_G p.tables e below s Q k n (T.setTop F) := by
  obtain ⟨fs, hr, hrun, hended, hW, hsame⟩ := X.leave hv hlk
  exact ⟨_, _, hs fs hr, hrun, hended, _, _, rfl, hQ, ⟨_, rfl⟩, hW, hsame.mono hk hn⟩
theorem own_retV (X : Stand p l e R s m args below meth c T locs cells slots) (hx : p.tables.exec = Jvm.exec) (hlk : meth.locks = false) {pc : Nat} {Ls : Array Slot} (hret : meth.sig.returnType = none) (hd : decode c.code pc = .ok (.return_, 1))
    (hk : cells ≤ k) (hn : slots ≤ n) (hQ : Q none T.heap locs) : own_G p.tables e below s Q k n (T.setTop (mkF m pc Ls [])) :=
  own_out X (fun _ => rfl) hlk (fun fs hr => X.returnOut hx hret hd hr) hk hn hQ
theorem own_retN (X : Stand p l e R s m args below meth c T locs cells slots) (hx : p.tables.exec = Jvm.exec) (hlk : meth.locks = false) {pc : Nat} {Ls : Array Slot} {z : Int32} {t : FieldType} {rest : List Value} (hret : meth.sig.returnType = some t) (ht : t = .boolean ∨ t = .byte ∨ t = .char ∨ t = .short) (hd : decode c.code pc = .ok (.ireturn, 1))
    (hk : cells ≤ k) (hn : slots ≤ n) (hQ : Q (some (.int (nar t z))) T.heap locs) : own_G p.tables e below s Q k n (T.setTop (mkF m pc Ls (.int z :: rest))) :=
  own_out X (fun h => by rw [hret] at h; cases h) hlk (fun fs hr => retN X hx hret ht hd hr) hk hn hQ
theorem own_retI (X : Stand p l e R s m args below meth c T locs cells slots) (hx : p.tables.exec = Jvm.exec) (hlk : meth.locks = false) {pc : Nat} {Ls : Array Slot} {z : Int32} {rest : List Value} (hret : meth.sig.returnType = some .int) (hd : decode c.code pc = .ok (.ireturn, 1))
    (hk : cells ≤ k) (hn : slots ≤ n) (hQ : Q (some (.int z)) T.heap locs) : own_G p.tables e below s Q k n (T.setTop (mkF m pc Ls (.int z :: rest))) :=
  own_out X (fun h => by rw [hret] at h; cases h) hlk (fun fs hr => retOut X hx hret rfl (Or.inl ⟨rfl, Or.inl rfl, _, rfl⟩) hd hr) hk hn hQ
theorem own_retJ (X : Stand p l e R s m args below meth c T locs cells slots) (hx : p.tables.exec = Jvm.exec) (hlk : meth.locks = false) {pc : Nat} {Ls : Array Slot} {z : Int64} {rest : List Value} (hret : meth.sig.returnType = some .long) (hd : decode c.code pc = .ok (.lreturn, 1))
    (hk : cells ≤ k) (hn : slots ≤ n) (hQ : Q (some (.long z)) T.heap locs) : own_G p.tables e below s Q k n (T.setTop (mkF m pc Ls (.long z :: rest))) :=
  own_out X (fun h => by rw [hret] at h; cases h) hlk (fun fs hr => retOut X hx hret rfl (Or.inr (Or.inl ⟨rfl, rfl, _, rfl⟩)) hd hr) hk hn hQ
theorem own_retA (X : Stand p l e R s m args below meth c T locs cells slots) (hx : p.tables.exec = Jvm.exec) (hlk : meth.locks = false) {pc : Nat} {Ls : Array Slot} {a : Addr} {t : FieldType} {rest : List Value} (hret : meth.sig.returnType = some t) (hd : decode c.code pc = .ok (.areturn, 1)) (ht : t.isReference = true)
    (hk : cells ≤ k) (hn : slots ≤ n) (hQ : Q (some (.ref a)) T.heap locs) : own_G p.tables e below s Q k n (T.setTop (mkF m pc Ls (.ref a :: rest))) :=
  own_out X (fun h => by rw [hret] at h; cases h) hlk (fun fs hr => retOut X hx hret (by cases t <;> first | rfl | cases ht) (Or.inr (Or.inr (Or.inr (Or.inr ⟨rfl, ht, rfl⟩)))) hd hr) hk hn hQ
end Rets

theorem pd_0 : parseMethodDescriptor "(I)Z" = some ⟨[.int], some .boolean⟩ := by decide +kernel
/-! 1. which operations the three methods take -/
def own_batch (x : Int32) : Int32 := if x.toInt = 5 ∨ x.toInt = 6 ∨ x.toInt = 8 ∨ x.toInt = 10 then 1 else 0
def own_coord (x : Int32) : Int32 := if (3 ≤ x.toInt ∧ x.toInt ≤ 6) ∨ (8 ≤ x.toInt ∧ x.toInt ≤ 10) ∨ x.toInt = 15 ∨ x.toInt = 16 ∨ x.toInt = 23 ∨ (25 ≤ x.toInt ∧ x.toInt ≤ 31) ∨ (33 ≤ x.toInt ∧ x.toInt ≤ 35) then 1 else 0
def own_count (x : Int32) : Int32 := if 18 ≤ x.toInt ∧ x.toInt ≤ 22 then 1 else 0
theorem own_batch01 (x : Int32) : own_batch x = 1 ∨ own_batch x = 0 := by unfold own_batch; split <;> simp
theorem own_batch_yes {x : Int32} (h : ¬ own_batch x = 0) : x.toInt = 5 ∨ x.toInt = 6 ∨ x.toInt = 8 ∨ x.toInt = 10 := by
  unfold own_batch at h
  split at h
  · assumption
  · exact absurd rfl h
theorem own_coord_yes {x : Int32} (h : ¬ own_batch x = 0) : ¬ own_coord x = 0 := by
  have := own_batch_yes h
  have q : own_coord x = 1 := if_pos (by omega)
  rw [q]; decide
theorem own_count_no {x : Int32} (h : ¬ own_batch x = 0) : own_count x = 0 := by
  have := own_batch_yes h
  exact if_neg (by omega)
theorem own_batch_eq (x : Int32) : (if x = 5 then (1 : Int32) else if x = 6 then 1 else if x = 8 then 1 else if x = 10 then 1 else 0) = own_batch x := by
  unfold own_batch
  simp only [← Int32.toInt_inj, Int32.reduceToInt]
  by_cases h1 : x.toInt = 5
  · simp [h1]
  by_cases h2 : x.toInt = 6
  · simp [h2]
  by_cases h3 : x.toInt = 8
  · simp [h3]
  by_cases h4 : x.toInt = 10 <;> simp [h1, h2, h3, h4]
theorem d1_0 : decode prog_97_method_3_code 0 = .ok (.iload_n 0, 1) := by decide +kernel
theorem d1_1 : decode prog_97_method_3_code 1 = .ok (.tableswitch 43 5 10 #[39, 39, 43, 39, 43, 39], 39) := by decide +kernel
theorem d1_40 : decode prog_97_method_3_code 40 = .ok (.iconst 1, 1) := by decide +kernel
theorem d1_41 : decode prog_97_method_3_code 41 = .ok (.goto 4, 3) := by decide +kernel
theorem d1_44 : decode prog_97_method_3_code 44 = .ok (.iconst 0, 1) := by decide +kernel
theorem d1_45 : decode prog_97_method_3_code 45 = .ok (.ireturn, 1) := by decide +kernel
theorem pn_com_example_tightrope_tightrope_protocol_Wire : plainName "com/example/tightrope/tightrope/protocol/Wire" = true := by first | (simp [plainName, overriddenIn]; done) | decide +kernel
theorem ef_rm1 (m : MethodId) (x0 : Int32) : entryFrame m #[(.int x0)] 1 = mkF m 0 #[.val (.int x0)] [] := by first | (simp [entryFrame, mkF, argsToLocals, Value.category]; done) | rfl
def QQ_rm1 (Z : State) (p0 : Int32)  (h0 : Heap) (n0 : Nat) (v : Option Value) (h : Heap) (L : List Loc) : Prop := v = some (.int (own_batch p0)) ∧ Fr n0 L ∧ h = h0
set_option maxRecDepth 65536 in
set_option maxHeartbeats 40000000 in
theorem rm1 (l : Launch) (Z : State) (a0 : Array Value) (hw : ∀ d ∈ tables_1, d.before a0 Z = true) (ws : List Jvm.Cond) (p0 : Int32)  (h0 : Heap) (n0 : Nat) (Z0 : n0 ≤ h0.size)  :
    MetFree l (⟨"com/example/tightrope/tightrope/protocol/Wire", "isBatchable", "(I)Z"⟩ : MethodName) (head1 (Jvm.Cond.code (⟨"com/example/tightrope/tightrope/protocol/Wire", "isBatchable", "(I)Z"⟩ : MethodName) prog_97_method_3_code 1 (some .boolean) :: ws) ({ frames := 0, cells := 0, slots := 0, locals := 0 } : Room)) (fun a U => a = #[(.int p0)] ∧ Z.Warmed39 U.vm ∧ U.heap = h0) (fun _ _ _ _ _ => True) (fun _ U o U' => ∃ v L, o = .returned v ∧ (QQ_rm1 Z p0 h0 n0) v U'.heap L ∧ FrameEnd U o U' L ({ frames := 0, cells := 0, slots := 0, locals := 0 } : Room).cells ({ frames := 0, cells := 0, slots := 0, locals := 0 } : Room).slots) := by
  refine MetFree.of_bodySF (plainFor_of_name pn_com_example_tightrope_tightrope_protocol_Wire) hisR ?_
  intro p e s m args below meth c s₁ Bd hml0 hP hK
  obtain ⟨rfl, hZ, hh⟩ := hP
  have hx := Bd.exec
  have hby := Bd.bytes
  have hlk : meth.locks = false := BodyLoose.notSynchronized Bd
  have hml : c.maxLocals = 1 := hml0
  have hown : s.vm.findClass "com/example/tightrope/tightrope/protocol/Wire" = some m.cls := findClass_of_methodNamed Bd.named
  have hnm := (name_of_methodNamed Bd.named Bd.method).1
  have X0 : Stand p l e ({ frames := 0, cells := 0, slots := 0, locals := 0 } : Room) s m #[(.int p0)] below meth c s₁ [] 0 0 := Stand.of_body Bd
  have e0 : s₁.heap = h0 := by rw [← hh, Bd.state]; rfl
  have N0 := Fr.nil n0
  show own_G p.tables e below s (QQ_rm1 Z p0 h0 n0) ({ frames := 0, cells := 0, slots := 0, locals := 0 } : Room).cells ({ frames := 0, cells := 0, slots := 0, locals := 0 } : Room).slots (s₁.setTop (entryFrame m #[(.int p0)] 1))
  refine own_step (B := s₁.setTop (mkF m 0 #[.val (.int p0)] [])) (fun t k => castTop (ef_rm1 m p0) k) ?_
  refine own_step (B := s₁.setTop (mkF m 1 #[.val (.int p0)] [(.int p0)])) (fun t k => XS.iloadN X0.here hx rfl (hb hby d1_0) rfl k) ?_
  by_cases hsw1 : (p0).toInt < 5 ∨ (p0).toInt > 10
  · skip
    refine own_step (B := s₁.setTop (mkF m 44 #[.val (.int p0)] [])) (fun t k => XS.tswOut X0.here hx rfl (pc0 := 1) (pc' := 44) rfl (hb hby d1_1) rfl hsw1 (by decide) (by decide) k) ?_
    refine own_step (B := s₁.setTop (mkF m 45 #[.val (.int p0)] [(.int (0 : Int32))])) (fun t k => XS.iconst X0.here hx rfl (hb hby d1_44) k) ?_
    exact own_retN X0 hx hlk (t := .boolean) Bd.returns (by simp) (hb hby d1_45) (by decide) (by decide) (by have hh : own_batch p0 = 0 := if_neg (by omega); exact ⟨by rw [hh]; rfl, N0, e0⟩)
  · skip
    have hcs1 : ((p0).toInt = 5 ∨ (p0).toInt = 6 ∨ (p0).toInt = 8 ∨ (p0).toInt = 10) ∨ ((p0).toInt = 7 ∨ (p0).toInt = 9) := by omega
    rcases hcs1 with hk1 | hk1
    · skip
      have hof : (#[39, 39, 43, 39, 43, 39] : Array Int)[((p0).toInt - 5).toNat]? = some 39 := by
        rcases hk1 with hq | hq | hq | hq <;> rw [hq] <;> rfl
      refine own_step (B := s₁.setTop (mkF m 40 #[.val (.int p0)] [])) (fun t k => XS.tswIn X0.here hx rfl (pc0 := 1) (pc' := 40) rfl (hb hby d1_1) rfl hsw1 hof (by decide) (by decide) k) ?_
      refine own_step (B := s₁.setTop (mkF m 41 #[.val (.int p0)] [(.int (1 : Int32))])) (fun t k => XS.iconst X0.here hx rfl (hb hby d1_40) k) ?_
      refine own_step (B := s₁.setTop (mkF m 45 #[.val (.int p0)] [(.int (1 : Int32))])) (fun t k => XS.goto X0.here hx rfl (pc0 := 41) (pc' := 45) rfl (hb hby d1_41) (by decide) (by decide) k) ?_
      exact own_retN X0 hx hlk (t := .boolean) Bd.returns (by simp) (hb hby d1_45) (by decide) (by decide) (by have hh : own_batch p0 = 1 := if_pos (by omega); exact ⟨by rw [hh]; rfl, N0, e0⟩)
    · skip
      have hof : (#[39, 39, 43, 39, 43, 39] : Array Int)[((p0).toInt - 5).toNat]? = some 43 := by
        rcases hk1 with hq | hq <;> rw [hq] <;> rfl
      refine own_step (B := s₁.setTop (mkF m 44 #[.val (.int p0)] [])) (fun t k => XS.tswIn X0.here hx rfl (pc0 := 1) (pc' := 44) rfl (hb hby d1_1) rfl hsw1 hof (by decide) (by decide) k) ?_
      refine own_step (B := s₁.setTop (mkF m 45 #[.val (.int p0)] [(.int (0 : Int32))])) (fun t k => XS.iconst X0.here hx rfl (hb hby d1_44) k) ?_
      exact own_retN X0 hx hlk (t := .boolean) Bd.returns (by simp) (hb hby d1_45) (by decide) (by decide) (by have hh : own_batch p0 = 0 := if_neg (by omega); exact ⟨by rw [hh]; rfl, N0, e0⟩)
theorem d2_0 : decode prog_97_method_2_code 0 = .ok (.iload_n 0, 1) := by decide +kernel
theorem d2_1 : decode prog_97_method_2_code 1 = .ok (.tableswitch 151 3 35 #[147, 147, 147, 147, 151, 147, 147, 147, 151, 151, 151, 151, 147, 147, 151, 151, 151, 151, 151, 151, 147, 151, 147, 147, 147, 147, 147, 147, 147, 151, 147, 147, 147], 147) := by decide +kernel
theorem d2_148 : decode prog_97_method_2_code 148 = .ok (.iconst 1, 1) := by decide +kernel
theorem d2_149 : decode prog_97_method_2_code 149 = .ok (.goto 4, 3) := by decide +kernel
theorem d2_152 : decode prog_97_method_2_code 152 = .ok (.iconst 0, 1) := by decide +kernel
theorem d2_153 : decode prog_97_method_2_code 153 = .ok (.ireturn, 1) := by decide +kernel
theorem ef_rm2 (m : MethodId) (x0 : Int32) : entryFrame m #[(.int x0)] 1 = mkF m 0 #[.val (.int x0)] [] := by first | (simp [entryFrame, mkF, argsToLocals, Value.category]; done) | rfl
def QQ_rm2 (Z : State) (p0 : Int32)  (h0 : Heap) (n0 : Nat) (v : Option Value) (h : Heap) (L : List Loc) : Prop := v = some (.int (own_coord p0)) ∧ Fr n0 L ∧ h = h0
set_option maxRecDepth 65536 in
set_option maxHeartbeats 40000000 in
theorem rm2 (l : Launch) (Z : State) (a0 : Array Value) (hw : ∀ d ∈ tables_1, d.before a0 Z = true) (ws : List Jvm.Cond) (p0 : Int32)  (h0 : Heap) (n0 : Nat) (Z0 : n0 ≤ h0.size)  :
    MetFree l (⟨"com/example/tightrope/tightrope/protocol/Wire", "isCoordinatedClusterRequest", "(I)Z"⟩ : MethodName) (head1 (Jvm.Cond.code (⟨"com/example/tightrope/tightrope/protocol/Wire", "isCoordinatedClusterRequest", "(I)Z"⟩ : MethodName) prog_97_method_2_code 1 (some .boolean) :: ws) ({ frames := 0, cells := 0, slots := 0, locals := 0 } : Room)) (fun a U => a = #[(.int p0)] ∧ Z.Warmed39 U.vm ∧ U.heap = h0) (fun _ _ _ _ _ => True) (fun _ U o U' => ∃ v L, o = .returned v ∧ (QQ_rm2 Z p0 h0 n0) v U'.heap L ∧ FrameEnd U o U' L ({ frames := 0, cells := 0, slots := 0, locals := 0 } : Room).cells ({ frames := 0, cells := 0, slots := 0, locals := 0 } : Room).slots) := by
  refine MetFree.of_bodySF (plainFor_of_name pn_com_example_tightrope_tightrope_protocol_Wire) hisR ?_
  intro p e s m args below meth c s₁ Bd hml0 hP hK
  obtain ⟨rfl, hZ, hh⟩ := hP
  have hx := Bd.exec
  have hby := Bd.bytes
  have hlk : meth.locks = false := BodyLoose.notSynchronized Bd
  have hml : c.maxLocals = 1 := hml0
  have hown : s.vm.findClass "com/example/tightrope/tightrope/protocol/Wire" = some m.cls := findClass_of_methodNamed Bd.named
  have hnm := (name_of_methodNamed Bd.named Bd.method).1
  have X0 : Stand p l e ({ frames := 0, cells := 0, slots := 0, locals := 0 } : Room) s m #[(.int p0)] below meth c s₁ [] 0 0 := Stand.of_body Bd
  have e0 : s₁.heap = h0 := by rw [← hh, Bd.state]; rfl
  have N0 := Fr.nil n0
  show own_G p.tables e below s (QQ_rm2 Z p0 h0 n0) ({ frames := 0, cells := 0, slots := 0, locals := 0 } : Room).cells ({ frames := 0, cells := 0, slots := 0, locals := 0 } : Room).slots (s₁.setTop (entryFrame m #[(.int p0)] 1))
  refine own_step (B := s₁.setTop (mkF m 0 #[.val (.int p0)] [])) (fun t k => castTop (ef_rm2 m p0) k) ?_
  refine own_step (B := s₁.setTop (mkF m 1 #[.val (.int p0)] [(.int p0)])) (fun t k => XS.iloadN X0.here hx rfl (hb hby d2_0) rfl k) ?_
  by_cases hsw1 : (p0).toInt < 3 ∨ (p0).toInt > 35
  · skip
    refine own_step (B := s₁.setTop (mkF m 152 #[.val (.int p0)] [])) (fun t k => XS.tswOut X0.here hx rfl (pc0 := 1) (pc' := 152) rfl (hb hby d2_1) rfl hsw1 (by decide) (by decide) k) ?_
    refine own_step (B := s₁.setTop (mkF m 153 #[.val (.int p0)] [(.int (0 : Int32))])) (fun t k => XS.iconst X0.here hx rfl (hb hby d2_152) k) ?_
    exact own_retN X0 hx hlk (t := .boolean) Bd.returns (by simp) (hb hby d2_153) (by decide) (by decide) (by have hh : own_coord p0 = 0 := if_neg (by omega); exact ⟨by rw [hh]; rfl, N0, e0⟩)
  · skip
    have hcs1 : ((p0).toInt = 3 ∨ (p0).toInt = 4 ∨ (p0).toInt = 5 ∨ (p0).toInt = 6 ∨ (p0).toInt = 8 ∨ (p0).toInt = 9 ∨ (p0).toInt = 10 ∨ (p0).toInt = 15 ∨ (p0).toInt = 16 ∨ (p0).toInt = 23 ∨ (p0).toInt = 25 ∨ (p0).toInt = 26 ∨ (p0).toInt = 27 ∨ (p0).toInt = 28 ∨ (p0).toInt = 29 ∨ (p0).toInt = 30 ∨ (p0).toInt = 31 ∨ (p0).toInt = 33 ∨ (p0).toInt = 34 ∨ (p0).toInt = 35) ∨ ((p0).toInt = 7 ∨ (p0).toInt = 11 ∨ (p0).toInt = 12 ∨ (p0).toInt = 13 ∨ (p0).toInt = 14 ∨ (p0).toInt = 17 ∨ (p0).toInt = 18 ∨ (p0).toInt = 19 ∨ (p0).toInt = 20 ∨ (p0).toInt = 21 ∨ (p0).toInt = 22 ∨ (p0).toInt = 24 ∨ (p0).toInt = 32) := by omega
    rcases hcs1 with hk1 | hk1
    · skip
      have hof : (#[147, 147, 147, 147, 151, 147, 147, 147, 151, 151, 151, 151, 147, 147, 151, 151, 151, 151, 151, 151, 147, 151, 147, 147, 147, 147, 147, 147, 147, 151, 147, 147, 147] : Array Int)[((p0).toInt - 3).toNat]? = some 147 := by
        rcases hk1 with hq | hq | hq | hq | hq | hq | hq | hq | hq | hq | hq | hq | hq | hq | hq | hq | hq | hq | hq | hq <;> rw [hq] <;> rfl
      refine own_step (B := s₁.setTop (mkF m 148 #[.val (.int p0)] [])) (fun t k => XS.tswIn X0.here hx rfl (pc0 := 1) (pc' := 148) rfl (hb hby d2_1) rfl hsw1 hof (by decide) (by decide) k) ?_
      refine own_step (B := s₁.setTop (mkF m 149 #[.val (.int p0)] [(.int (1 : Int32))])) (fun t k => XS.iconst X0.here hx rfl (hb hby d2_148) k) ?_
      refine own_step (B := s₁.setTop (mkF m 153 #[.val (.int p0)] [(.int (1 : Int32))])) (fun t k => XS.goto X0.here hx rfl (pc0 := 149) (pc' := 153) rfl (hb hby d2_149) (by decide) (by decide) k) ?_
      exact own_retN X0 hx hlk (t := .boolean) Bd.returns (by simp) (hb hby d2_153) (by decide) (by decide) (by have hh : own_coord p0 = 1 := if_pos (by omega); exact ⟨by rw [hh]; rfl, N0, e0⟩)
    · skip
      have hof : (#[147, 147, 147, 147, 151, 147, 147, 147, 151, 151, 151, 151, 147, 147, 151, 151, 151, 151, 151, 151, 147, 151, 147, 147, 147, 147, 147, 147, 147, 151, 147, 147, 147] : Array Int)[((p0).toInt - 3).toNat]? = some 151 := by
        rcases hk1 with hq | hq | hq | hq | hq | hq | hq | hq | hq | hq | hq | hq | hq <;> rw [hq] <;> rfl
      refine own_step (B := s₁.setTop (mkF m 152 #[.val (.int p0)] [])) (fun t k => XS.tswIn X0.here hx rfl (pc0 := 1) (pc' := 152) rfl (hb hby d2_1) rfl hsw1 hof (by decide) (by decide) k) ?_
      refine own_step (B := s₁.setTop (mkF m 153 #[.val (.int p0)] [(.int (0 : Int32))])) (fun t k => XS.iconst X0.here hx rfl (hb hby d2_152) k) ?_
      exact own_retN X0 hx hlk (t := .boolean) Bd.returns (by simp) (hb hby d2_153) (by decide) (by decide) (by have hh : own_coord p0 = 0 := if_neg (by omega); exact ⟨by rw [hh]; rfl, N0, e0⟩)
theorem d3_0 : decode prog_97_method_4_code 0 = .ok (.iload_n 0, 1) := by decide +kernel
theorem d3_1 : decode prog_97_method_4_code 1 = .ok (.tableswitch 39 18 22 #[35, 35, 35, 35, 35], 35) := by decide +kernel
theorem d3_36 : decode prog_97_method_4_code 36 = .ok (.iconst 1, 1) := by decide +kernel
theorem d3_37 : decode prog_97_method_4_code 37 = .ok (.goto 4, 3) := by decide +kernel
theorem d3_40 : decode prog_97_method_4_code 40 = .ok (.iconst 0, 1) := by decide +kernel
theorem d3_41 : decode prog_97_method_4_code 41 = .ok (.ireturn, 1) := by decide +kernel
theorem ef_rm3 (m : MethodId) (x0 : Int32) : entryFrame m #[(.int x0)] 1 = mkF m 0 #[.val (.int x0)] [] := by first | (simp [entryFrame, mkF, argsToLocals, Value.category]; done) | rfl
def QQ_rm3 (Z : State) (p0 : Int32)  (h0 : Heap) (n0 : Nat) (v : Option Value) (h : Heap) (L : List Loc) : Prop := v = some (.int (own_count p0)) ∧ Fr n0 L ∧ h = h0
set_option maxRecDepth 65536 in
set_option maxHeartbeats 40000000 in
theorem rm3 (l : Launch) (Z : State) (a0 : Array Value) (hw : ∀ d ∈ tables_1, d.before a0 Z = true) (ws : List Jvm.Cond) (p0 : Int32)  (h0 : Heap) (n0 : Nat) (Z0 : n0 ≤ h0.size)  :
    MetFree l (⟨"com/example/tightrope/tightrope/protocol/Wire", "isCounterRequest", "(I)Z"⟩ : MethodName) (head1 (Jvm.Cond.code (⟨"com/example/tightrope/tightrope/protocol/Wire", "isCounterRequest", "(I)Z"⟩ : MethodName) prog_97_method_4_code 1 (some .boolean) :: ws) ({ frames := 0, cells := 0, slots := 0, locals := 0 } : Room)) (fun a U => a = #[(.int p0)] ∧ Z.Warmed39 U.vm ∧ U.heap = h0) (fun _ _ _ _ _ => True) (fun _ U o U' => ∃ v L, o = .returned v ∧ (QQ_rm3 Z p0 h0 n0) v U'.heap L ∧ FrameEnd U o U' L ({ frames := 0, cells := 0, slots := 0, locals := 0 } : Room).cells ({ frames := 0, cells := 0, slots := 0, locals := 0 } : Room).slots) := by
  refine MetFree.of_bodySF (plainFor_of_name pn_com_example_tightrope_tightrope_protocol_Wire) hisR ?_
  intro p e s m args below meth c s₁ Bd hml0 hP hK
  obtain ⟨rfl, hZ, hh⟩ := hP
  have hx := Bd.exec
  have hby := Bd.bytes
  have hlk : meth.locks = false := BodyLoose.notSynchronized Bd
  have hml : c.maxLocals = 1 := hml0
  have hown : s.vm.findClass "com/example/tightrope/tightrope/protocol/Wire" = some m.cls := findClass_of_methodNamed Bd.named
  have hnm := (name_of_methodNamed Bd.named Bd.method).1
  have X0 : Stand p l e ({ frames := 0, cells := 0, slots := 0, locals := 0 } : Room) s m #[(.int p0)] below meth c s₁ [] 0 0 := Stand.of_body Bd
  have e0 : s₁.heap = h0 := by rw [← hh, Bd.state]; rfl
  have N0 := Fr.nil n0
  show own_G p.tables e below s (QQ_rm3 Z p0 h0 n0) ({ frames := 0, cells := 0, slots := 0, locals := 0 } : Room).cells ({ frames := 0, cells := 0, slots := 0, locals := 0 } : Room).slots (s₁.setTop (entryFrame m #[(.int p0)] 1))
  refine own_step (B := s₁.setTop (mkF m 0 #[.val (.int p0)] [])) (fun t k => castTop (ef_rm3 m p0) k) ?_
  refine own_step (B := s₁.setTop (mkF m 1 #[.val (.int p0)] [(.int p0)])) (fun t k => XS.iloadN X0.here hx rfl (hb hby d3_0) rfl k) ?_
  by_cases hsw1 : (p0).toInt < 18 ∨ (p0).toInt > 22
  · skip
    refine own_step (B := s₁.setTop (mkF m 40 #[.val (.int p0)] [])) (fun t k => XS.tswOut X0.here hx rfl (pc0 := 1) (pc' := 40) rfl (hb hby d3_1) rfl hsw1 (by decide) (by decide) k) ?_
    refine own_step (B := s₁.setTop (mkF m 41 #[.val (.int p0)] [(.int (0 : Int32))])) (fun t k => XS.iconst X0.here hx rfl (hb hby d3_40) k) ?_
    exact own_retN X0 hx hlk (t := .boolean) Bd.returns (by simp) (hb hby d3_41) (by decide) (by decide) (by have hh : own_count p0 = 0 := if_neg (by omega); exact ⟨by rw [hh]; rfl, N0, e0⟩)
  · skip
    have hcs1 : ((p0).toInt = 18 ∨ (p0).toInt = 19 ∨ (p0).toInt = 20 ∨ (p0).toInt = 21 ∨ (p0).toInt = 22) := by omega
    have hk1 := hcs1
    · skip
      have hof : (#[35, 35, 35, 35, 35] : Array Int)[((p0).toInt - 18).toNat]? = some 35 := by
        rcases hk1 with hq | hq | hq | hq | hq <;> rw [hq] <;> rfl
      refine own_step (B := s₁.setTop (mkF m 36 #[.val (.int p0)] [])) (fun t k => XS.tswIn X0.here hx rfl (pc0 := 1) (pc' := 36) rfl (hb hby d3_1) rfl hsw1 hof (by decide) (by decide) k) ?_
      refine own_step (B := s₁.setTop (mkF m 37 #[.val (.int p0)] [(.int (1 : Int32))])) (fun t k => XS.iconst X0.here hx rfl (hb hby d3_36) k) ?_
      refine own_step (B := s₁.setTop (mkF m 41 #[.val (.int p0)] [(.int (1 : Int32))])) (fun t k => XS.goto X0.here hx rfl (pc0 := 37) (pc' := 41) rfl (hb hby d3_37) (by decide) (by decide) k) ?_
      exact own_retN X0 hx hlk (t := .boolean) Bd.returns (by simp) (hb hby d3_41) (by decide) (by decide) (by have hh : own_count p0 = 1 := if_pos (by omega); exact ⟨by rw [hh]; rfl, N0, e0⟩)
theorem pn_com_example_tightrope_tightrope_protocol_WireIsBatchablePinLaw : plainName "com/example/tightrope/tightrope/protocol/WireIsBatchablePinLaw" = true := by first | (simp [plainName, overriddenIn]; done) | decide +kernel
theorem ef_rm0 (m : MethodId) (x0 : Int32) (x1 : Int32) : entryFrame m #[(.int x0), (.int x1)] maxLocals = mkF m 0 #[.val (.int x0), .val (.int x1), .unset, .unset, .unset] [] := by first | (simp [entryFrame, mkF, argsToLocals, Value.category, maxLocals]; done) | rfl
def QQ_rm0 (Z : State) (p0 : Int32) (p1 : Int32)  (h0 : Heap) (n0 : Nat) (v : Option Value) (h : Heap) (L : List Loc) : Prop := v = some (.int 1) ∧ Fr n0 L
set_option maxRecDepth 65536 in
set_option maxHeartbeats 40000000 in
theorem rm0 (l : Launch) (Z : State) (a0 : Array Value) (hw : ∀ d ∈ tables_1, d.before a0 Z = true) (ws : List Jvm.Cond) (p0 : Int32) (p1 : Int32)  (h0 : Heap) (n0 : Nat) (Z0 : n0 ≤ h0.size)  :
    MetFree l x (head1 (Jvm.Cond.code x code maxLocals ret :: ws) room_1) (fun a U => a = #[(.int p0), (.int p1)] ∧ Z.Warmed39 U.vm ∧ U.heap = h0) (fun _ _ _ _ _ => True) (fun _ U o U' => ∃ v L, o = .returned v ∧ (QQ_rm0 Z p0 p1 h0 n0) v U'.heap L ∧ FrameEnd U o U' L room_1.cells room_1.slots) := by
  refine MetFree.of_bodySF (plainFor_of_name pn_com_example_tightrope_tightrope_protocol_WireIsBatchablePinLaw) hisR ?_
  intro p e s m args below meth c s₁ Bd hml0 hP hK
  obtain ⟨rfl, hZ, hh⟩ := hP
  have hx := Bd.exec
  have hby := Bd.bytes
  have hlk : meth.locks = false := BodyLoose.notSynchronized Bd
  have hml : c.maxLocals = 5 := hml0
  have hown : s.vm.findClass "com/example/tightrope/tightrope/protocol/WireIsBatchablePinLaw" = some m.cls := findClass_of_methodNamed Bd.named
  have hnm := (name_of_methodNamed Bd.named Bd.method).1
  have X0 : Stand p l e room_1 s m #[(.int p0), (.int p1)] below meth c s₁ [] 0 0 := Stand.of_body Bd
  have e0 : s₁.heap = h0 := by rw [← hh, Bd.state]; rfl
  have N0 := Fr.nil n0
  show own_G p.tables e below s (QQ_rm0 Z p0 p1 h0 n0) room_1.cells room_1.slots (s₁.setTop (entryFrame m #[(.int p0), (.int p1)] maxLocals))
  refine own_step (B := s₁.setTop (mkF m 0 #[.val (.int p0), .val (.int p1), .unset, .unset, .unset] [])) (fun t k => castTop (ef_rm0 m p0 p1) k) ?_
  refine own_step (B := s₁.setTop (mkF m 1 #[.val (.int p0), .val (.int p1), .unset, .unset, .unset] [(.int p1)])) (fun t k => XS.iloadN X0.here hx rfl (hb hby at_0) rfl k) ?_
  refine own_step (B := s₁.setTop (mkF m 2 #[.val (.int p0), .val (.int p1), .unset, .unset, .unset] [(.int (1 : Int32)), (.int p1)])) (fun t k => XS.iconst X0.here hx rfl (hb hby at_1) k) ?_
  refine own_step (B := s₁.setTop (mkF m 3 #[.val (.int p0), .val (.int p1), .unset, .unset, .unset] [(.int (p1 &&& (1 : Int32)))])) (fun t k => XS.iand X0.here hx rfl (hb hby at_2) rfl k) ?_
  have J1 : (∀ (T' : State) (ls' : List Loc), Stand p l e room_1 s m #[(.int p0), (.int p1)] below meth c T' ls' 0 0 → T'.heap = h0 → Fr n0 ls' → own_G p.tables e below s (QQ_rm0 Z p0 p1 h0 n0) room_1.cells room_1.slots (T'.setTop (mkF m 17 #[.val (.int p0), .val (.int p1), .unset, .unset, .unset] [(.int (if (p1 &&& (1 : Int32)) = (0 : Int32) then ((p0 &&& (63 : Int32)) - (8 : Int32)) else p0))]))) → own_G p.tables e below s (QQ_rm0 Z p0 p1 h0 n0) room_1.cells room_1.slots (s₁.setTop (mkF m 3 #[.val (.int p0), .val (.int p1), .unset, .unset, .unset] [(.int (p1 &&& (1 : Int32)))])) := by
    intro hJ
    by_cases hc3 : (p1 &&& (1 : Int32)) = (0 : Int32)
    · skip
      refine own_step (B := s₁.setTop (mkF m 10 #[.val (.int p0), .val (.int p1), .unset, .unset, .unset] [])) (fun t k => XS.ifYes X0.here hx rfl (pc0 := 3) (pc' := 10) rfl (hb hby at_3) rfl ((if0 _ _).trans (teq hc3).1) (by decide) (by decide) k) ?_
      refine own_step (B := s₁.setTop (mkF m 11 #[.val (.int p0), .val (.int p1), .unset, .unset, .unset] [(.int p0)])) (fun t k => XS.iloadN X0.here hx rfl (hb hby at_10) rfl k) ?_
      refine own_step (B := s₁.setTop (mkF m 13 #[.val (.int p0), .val (.int p1), .unset, .unset, .unset] [(.int (63 : Int32)), (.int p0)])) (fun t k => XS.bipush X0.here hx rfl (hb hby at_11) k) ?_
      refine own_step (B := s₁.setTop (mkF m 14 #[.val (.int p0), .val (.int p1), .unset, .unset, .unset] [(.int (p0 &&& (63 : Int32)))])) (fun t k => XS.iand X0.here hx rfl (hb hby at_13) rfl k) ?_
      refine own_step (B := s₁.setTop (mkF m 16 #[.val (.int p0), .val (.int p1), .unset, .unset, .unset] [(.int (8 : Int32)), (.int (p0 &&& (63 : Int32)))])) (fun t k => XS.bipush X0.here hx rfl (hb hby at_14) k) ?_
      refine own_step (B := s₁.setTop (mkF m 17 #[.val (.int p0), .val (.int p1), .unset, .unset, .unset] [(.int ((p0 &&& (63 : Int32)) - (8 : Int32)))])) (fun t k => XS.isub X0.here hx rfl (hb hby at_16) rfl k) ?_
      try simp only [if_pos hc3] at hJ
      exact hJ _ _ X0 e0 N0
    · skip
      refine own_step (B := s₁.setTop (mkF m 6 #[.val (.int p0), .val (.int p1), .unset, .unset, .unset] [])) (fun t k => XS.ifNo X0.here hx rfl (hb hby at_3) rfl ((if0 _ _).trans (feq hc3).1) k) ?_
      refine own_step (B := s₁.setTop (mkF m 7 #[.val (.int p0), .val (.int p1), .unset, .unset, .unset] [(.int p0)])) (fun t k => XS.iloadN X0.here hx rfl (hb hby at_6) rfl k) ?_
      refine own_step (B := s₁.setTop (mkF m 17 #[.val (.int p0), .val (.int p1), .unset, .unset, .unset] [(.int p0)])) (fun t k => XS.goto X0.here hx rfl (pc0 := 7) (pc' := 17) rfl (hb hby at_7) (by decide) (by decide) k) ?_
      try simp only [if_neg hc3] at hJ
      exact hJ _ _ X0 e0 N0
  refine J1 ?_
  clear J1
  intro T2 ls2 X2 e2 N0
  obtain ⟨op, e_op⟩ : ∃ z, z = (if (p1 &&& (1 : Int32)) = (0 : Int32) then ((p0 &&& (63 : Int32)) - (8 : Int32)) else p0) := ⟨_, rfl⟩
  rw [← e_op]
  refine own_step (B := T2.setTop (mkF m 18 #[.val (.int p0), .val (.int p1), .val (.int op), .unset, .unset] [])) (fun t k => XS.istoreN X2.here hx rfl (hb hby at_17) rfl (l' := #[.val (.int p0), .val (.int p1), .val (.int op), .unset, .unset]) rfl k) ?_
  refine own_step (B := T2.setTop (mkF m 19 #[.val (.int p0), .val (.int p1), .val (.int op), .unset, .unset] [(.int op)])) (fun t k => XS.iloadN X2.here hx rfl (hb hby at_18) rfl k) ?_
  refine own_step (B := T2.setTop (mkF m 20 #[.val (.int p0), .val (.int p1), .val (.int op), .unset, .unset] [(.int (5 : Int32)), (.int op)])) (fun t k => XS.iconst X2.here hx rfl (hb hby at_19) k) ?_
  have J3 : (∀ (T' : State) (ls' : List Loc), Stand p l e room_1 s m #[(.int p0), (.int p1)] below meth c T' ls' 0 0 → T'.heap = h0 → Fr n0 ls' → own_G p.tables e below s (QQ_rm0 Z p0 p1 h0 n0) room_1.cells room_1.slots (T'.setTop (mkF m 46 #[.val (.int p0), .val (.int p1), .val (.int op), .unset, .unset] [(.int (if op = (5 : Int32) then (1 : Int32) else (if op = (6 : Int32) then (1 : Int32) else (if op = (8 : Int32) then (1 : Int32) else (if op = (10 : Int32) then (1 : Int32) else (0 : Int32))))))]))) → own_G p.tables e below s (QQ_rm0 Z p0 p1 h0 n0) room_1.cells room_1.slots (T2.setTop (mkF m 20 #[.val (.int p0), .val (.int p1), .val (.int op), .unset, .unset] [(.int (5 : Int32)), (.int op)])) := by
    intro hJ
    by_cases hc20 : op = (5 : Int32)
    · skip
      refine own_step (B := T2.setTop (mkF m 41 #[.val (.int p0), .val (.int p1), .val (.int op), .unset, .unset] [])) (fun t k => XS.icmpYes X2.here hx rfl (pc0 := 20) (pc' := 41) rfl (hb hby at_20) rfl (teq hc20).1 (by decide) (by decide) k) ?_
      refine own_step (B := T2.setTop (mkF m 42 #[.val (.int p0), .val (.int p1), .val (.int op), .unset, .unset] [(.int (1 : Int32))])) (fun t k => XS.iconst X2.here hx rfl (hb hby at_41) k) ?_
      refine own_step (B := T2.setTop (mkF m 46 #[.val (.int p0), .val (.int p1), .val (.int op), .unset, .unset] [(.int (1 : Int32))])) (fun t k => XS.goto X2.here hx rfl (pc0 := 42) (pc' := 46) rfl (hb hby at_42) (by decide) (by decide) k) ?_
      try simp only [if_pos hc20] at hJ
      exact hJ _ _ X2 e2 N0
    · skip
      refine own_step (B := T2.setTop (mkF m 23 #[.val (.int p0), .val (.int p1), .val (.int op), .unset, .unset] [])) (fun t k => XS.icmpNo X2.here hx rfl (hb hby at_20) rfl (feq hc20).1 k) ?_
      refine own_step (B := T2.setTop (mkF m 24 #[.val (.int p0), .val (.int p1), .val (.int op), .unset, .unset] [(.int op)])) (fun t k => XS.iloadN X2.here hx rfl (hb hby at_23) rfl k) ?_
      refine own_step (B := T2.setTop (mkF m 26 #[.val (.int p0), .val (.int p1), .val (.int op), .unset, .unset] [(.int (6 : Int32)), (.int op)])) (fun t k => XS.bipush X2.here hx rfl (hb hby at_24) k) ?_
      by_cases hc26 : op = (6 : Int32)
      · skip
        refine own_step (B := T2.setTop (mkF m 41 #[.val (.int p0), .val (.int p1), .val (.int op), .unset, .unset] [])) (fun t k => XS.icmpYes X2.here hx rfl (pc0 := 26) (pc' := 41) rfl (hb hby at_26) rfl (teq hc26).1 (by decide) (by decide) k) ?_
        refine own_step (B := T2.setTop (mkF m 42 #[.val (.int p0), .val (.int p1), .val (.int op), .unset, .unset] [(.int (1 : Int32))])) (fun t k => XS.iconst X2.here hx rfl (hb hby at_41) k) ?_
        refine own_step (B := T2.setTop (mkF m 46 #[.val (.int p0), .val (.int p1), .val (.int op), .unset, .unset] [(.int (1 : Int32))])) (fun t k => XS.goto X2.here hx rfl (pc0 := 42) (pc' := 46) rfl (hb hby at_42) (by decide) (by decide) k) ?_
        try simp only [if_neg hc20, if_pos hc26] at hJ
        exact hJ _ _ X2 e2 N0
      · skip
        refine own_step (B := T2.setTop (mkF m 29 #[.val (.int p0), .val (.int p1), .val (.int op), .unset, .unset] [])) (fun t k => XS.icmpNo X2.here hx rfl (hb hby at_26) rfl (feq hc26).1 k) ?_
        refine own_step (B := T2.setTop (mkF m 30 #[.val (.int p0), .val (.int p1), .val (.int op), .unset, .unset] [(.int op)])) (fun t k => XS.iloadN X2.here hx rfl (hb hby at_29) rfl k) ?_
        refine own_step (B := T2.setTop (mkF m 32 #[.val (.int p0), .val (.int p1), .val (.int op), .unset, .unset] [(.int (8 : Int32)), (.int op)])) (fun t k => XS.bipush X2.here hx rfl (hb hby at_30) k) ?_
        by_cases hc32 : op = (8 : Int32)
        · skip
          refine own_step (B := T2.setTop (mkF m 41 #[.val (.int p0), .val (.int p1), .val (.int op), .unset, .unset] [])) (fun t k => XS.icmpYes X2.here hx rfl (pc0 := 32) (pc' := 41) rfl (hb hby at_32) rfl (teq hc32).1 (by decide) (by decide) k) ?_
          refine own_step (B := T2.setTop (mkF m 42 #[.val (.int p0), .val (.int p1), .val (.int op), .unset, .unset] [(.int (1 : Int32))])) (fun t k => XS.iconst X2.here hx rfl (hb hby at_41) k) ?_
          refine own_step (B := T2.setTop (mkF m 46 #[.val (.int p0), .val (.int p1), .val (.int op), .unset, .unset] [(.int (1 : Int32))])) (fun t k => XS.goto X2.here hx rfl (pc0 := 42) (pc' := 46) rfl (hb hby at_42) (by decide) (by decide) k) ?_
          try simp only [if_neg hc20, if_neg hc26, if_pos hc32] at hJ
          exact hJ _ _ X2 e2 N0
        · skip
          refine own_step (B := T2.setTop (mkF m 35 #[.val (.int p0), .val (.int p1), .val (.int op), .unset, .unset] [])) (fun t k => XS.icmpNo X2.here hx rfl (hb hby at_32) rfl (feq hc32).1 k) ?_
          refine own_step (B := T2.setTop (mkF m 36 #[.val (.int p0), .val (.int p1), .val (.int op), .unset, .unset] [(.int op)])) (fun t k => XS.iloadN X2.here hx rfl (hb hby at_35) rfl k) ?_
          refine own_step (B := T2.setTop (mkF m 38 #[.val (.int p0), .val (.int p1), .val (.int op), .unset, .unset] [(.int (10 : Int32)), (.int op)])) (fun t k => XS.bipush X2.here hx rfl (hb hby at_36) k) ?_
          by_cases hc38 : op = (10 : Int32)
          · skip
            refine own_step (B := T2.setTop (mkF m 41 #[.val (.int p0), .val (.int p1), .val (.int op), .unset, .unset] [])) (fun t k => XS.icmpNo X2.here hx rfl (hb hby at_38) rfl (teq hc38).2 k) ?_
            refine own_step (B := T2.setTop (mkF m 42 #[.val (.int p0), .val (.int p1), .val (.int op), .unset, .unset] [(.int (1 : Int32))])) (fun t k => XS.iconst X2.here hx rfl (hb hby at_41) k) ?_
            refine own_step (B := T2.setTop (mkF m 46 #[.val (.int p0), .val (.int p1), .val (.int op), .unset, .unset] [(.int (1 : Int32))])) (fun t k => XS.goto X2.here hx rfl (pc0 := 42) (pc' := 46) rfl (hb hby at_42) (by decide) (by decide) k) ?_
            try simp only [if_neg hc20, if_neg hc26, if_neg hc32, if_pos hc38] at hJ
            exact hJ _ _ X2 e2 N0
          · skip
            refine own_step (B := T2.setTop (mkF m 45 #[.val (.int p0), .val (.int p1), .val (.int op), .unset, .unset] [])) (fun t k => XS.icmpYes X2.here hx rfl (pc0 := 38) (pc' := 45) rfl (hb hby at_38) rfl (feq hc38).2 (by decide) (by decide) k) ?_
            refine own_step (B := T2.setTop (mkF m 46 #[.val (.int p0), .val (.int p1), .val (.int op), .unset, .unset] [(.int (0 : Int32))])) (fun t k => XS.iconst X2.here hx rfl (hb hby at_45) k) ?_
            try simp only [if_neg hc20, if_neg hc26, if_neg hc32, if_neg hc38] at hJ
            exact hJ _ _ X2 e2 N0
  refine J3 ?_
  clear J3
  intro T4 ls4 X4 e4 N0
  rw [own_batch_eq op]
  refine own_step (B := T4.setTop (mkF m 47 #[.val (.int p0), .val (.int p1), .val (.int op), .val (.int (own_batch op)), .unset] [])) (fun t k => XS.istoreN X4.here hx rfl (hb hby at_46) rfl (l' := #[.val (.int p0), .val (.int p1), .val (.int op), .val (.int (own_batch op)), .unset]) rfl k) ?_
  refine own_step (B := T4.setTop (mkF m 48 #[.val (.int p0), .val (.int p1), .val (.int op), .val (.int (own_batch op)), .unset] [(.int op)])) (fun t k => XS.iloadN X4.here hx rfl (hb hby at_47) rfl k) ?_
  obtain ⟨_, _, ⟨T5, L5, k5, n5⟩, -, X5, ⟨Lc5, hQ5, l5, y5, z5⟩, st5⟩ := Jvm.LawKit.callS X4 hx (y := (⟨"com/example/tightrope/tightrope/protocol/Wire", "isBatchable", "(I)Z"⟩ : MethodName)) hown (mvT hZ (hw _ (List.mem_of_getElem? (i := 0) rfl))) (mvT hZ (hw _ (List.mem_of_getElem? (i := 1) rfl))) (mvT hZ (hw _ (List.mem_of_getElem? (i := 2) rfl))) (mvT hZ (hw _ (List.mem_of_getElem? (i := 3) rfl))) (by decide) (backOf (W := 0) (rm1 l Z a0 hw [] op  h0 n0 Z0 ) hZ (hw _ (List.mem_of_getElem? (i := 3) rfl)) (hw _ (List.mem_of_getElem? (i := 2) rfl)) (by decide) (by decide)) (g := (mkF m 48 #[.val (.int p0), .val (.int p1), .val (.int op), .val (.int (own_batch op)), .unset] [(.int op)])) rfl (by rw [hml]; rfl) (argsL := [(.int op)]) (rest := []) (lenOf pd_0 rfl) rfl (by show 2 * 0 + _ ≤ _; exact Nat.le_of_eq rfl) (hb hby at_48) (fun _ _ => ⟨rfl, e4, (by decide : 0 + 0 ≤ _), (by decide : 0 + 0 ≤ _)⟩)
  dsimp only [Pt.U, Pt.locs, Pt.cells, Pt.slots] at X5 l5 y5 z5 st5 hQ5
  subst l5 y5 z5
  obtain ⟨rfl, N5q, e5⟩ := hQ5
  have N0 := Fr.app N0 N5q
  refine own_step (B := T5.setTop (mkF m 51 #[.val (.int p0), .val (.int p1), .val (.int op), .val (.int (own_batch op)), .unset] [(.int (own_batch op))])) (fun t k => st5 t k) ?_
  refine own_step (B := T5.setTop (mkF m 53 #[.val (.int p0), .val (.int p1), .val (.int op), .val (.int (own_batch op)), .val (.int (own_batch op))] [])) (fun t k => XS.istore X5.here hx rfl (hb hby at_51) rfl (l' := #[.val (.int p0), .val (.int p1), .val (.int op), .val (.int (own_batch op)), .val (.int (own_batch op))]) rfl k) ?_
  refine own_step (B := T5.setTop (mkF m 55 #[.val (.int p0), .val (.int p1), .val (.int op), .val (.int (own_batch op)), .val (.int (own_batch op))] [(.int (own_batch op))])) (fun t k => XS.iload X5.here hx rfl (hb hby at_53) rfl k) ?_
  refine own_step (B := T5.setTop (mkF m 56 #[.val (.int p0), .val (.int p1), .val (.int op), .val (.int (own_batch op)), .val (.int (own_batch op))] [(.int (own_batch op)), (.int (own_batch op))])) (fun t k => XS.iloadN X5.here hx rfl (hb hby at_55) rfl k) ?_
  refine own_step (B := T5.setTop (mkF m 61 #[.val (.int p0), .val (.int p1), .val (.int op), .val (.int (own_batch op)), .val (.int (own_batch op))] [])) (fun t k => XS.icmpYes X5.here hx rfl (pc0 := 56) (pc' := 61) rfl (hb hby at_56) rfl (teq rfl).1 (by decide) (by decide) k) ?_
  refine own_step (B := T5.setTop (mkF m 63 #[.val (.int p0), .val (.int p1), .val (.int op), .val (.int (own_batch op)), .val (.int (own_batch op))] [(.int (own_batch op))])) (fun t k => XS.iload X5.here hx rfl (hb hby at_61) rfl k) ?_
  by_cases hc63 : (own_batch op) = (0 : Int32)
  · skip
    refine own_step (B := T5.setTop (mkF m 75 #[.val (.int p0), .val (.int p1), .val (.int op), .val (.int (own_batch op)), .val (.int (own_batch op))] [])) (fun t k => XS.ifYes X5.here hx rfl (pc0 := 63) (pc' := 75) rfl (hb hby at_63) rfl ((if0 _ _).trans (teq hc63).1) (by decide) (by decide) k) ?_
    refine own_step (B := T5.setTop (mkF m 77 #[.val (.int p0), .val (.int p1), .val (.int op), .val (.int (own_batch op)), .val (.int (own_batch op))] [(.int (own_batch op))])) (fun t k => XS.iload X5.here hx rfl (hb hby at_75) rfl k) ?_
    refine own_step (B := T5.setTop (mkF m 89 #[.val (.int p0), .val (.int p1), .val (.int op), .val (.int (own_batch op)), .val (.int (own_batch op))] [])) (fun t k => XS.ifYes X5.here hx rfl (pc0 := 77) (pc' := 89) rfl (hb hby at_77) rfl ((if0 _ _).trans (teq hc63).1) (by decide) (by decide) k) ?_
    refine own_step (B := T5.setTop (mkF m 90 #[.val (.int p0), .val (.int p1), .val (.int op), .val (.int (own_batch op)), .val (.int (own_batch op))] [(.int (1 : Int32))])) (fun t k => XS.iconst X5.here hx rfl (hb hby at_89) k) ?_
    exact own_retN X5 hx hlk (t := .boolean) Bd.returns (by simp) (hb hby at_90) (by decide) (by decide) (by exact ⟨rfl, N0⟩)
  · skip
    refine own_step (B := T5.setTop (mkF m 66 #[.val (.int p0), .val (.int p1), .val (.int op), .val (.int (own_batch op)), .val (.int (own_batch op))] [])) (fun t k => XS.ifNo X5.here hx rfl (hb hby at_63) rfl ((if0 _ _).trans (feq hc63).1) k) ?_
    refine own_step (B := T5.setTop (mkF m 67 #[.val (.int p0), .val (.int p1), .val (.int op), .val (.int (own_batch op)), .val (.int (own_batch op))] [(.int op)])) (fun t k => XS.iloadN X5.here hx rfl (hb hby at_66) rfl k) ?_
    obtain ⟨_, _, ⟨T6, L6, k6, n6⟩, -, X6, ⟨Lc6, hQ6, l6, y6, z6⟩, st6⟩ := Jvm.LawKit.callS X5 hx (y := (⟨"com/example/tightrope/tightrope/protocol/Wire", "isCoordinatedClusterRequest", "(I)Z"⟩ : MethodName)) hown (mvT hZ (hw _ (List.mem_of_getElem? (i := 4) rfl))) (mvT hZ (hw _ (List.mem_of_getElem? (i := 5) rfl))) (mvT hZ (hw _ (List.mem_of_getElem? (i := 2) rfl))) (mvT hZ (hw _ (List.mem_of_getElem? (i := 6) rfl))) (by decide) (backOf (W := 0) (rm2 l Z a0 hw [] op  h0 n0 Z0 ) hZ (hw _ (List.mem_of_getElem? (i := 6) rfl)) (hw _ (List.mem_of_getElem? (i := 2) rfl)) (by decide) (by decide)) (g := (mkF m 67 #[.val (.int p0), .val (.int p1), .val (.int op), .val (.int (own_batch op)), .val (.int (own_batch op))] [(.int op)])) rfl (by rw [hml]; rfl) (argsL := [(.int op)]) (rest := []) (lenOf pd_0 rfl) rfl (by show 2 * 0 + _ ≤ _; exact Nat.le_of_eq rfl) (hb hby at_67) (fun _ _ => ⟨rfl, e5, (by decide : 0 + 0 ≤ _), (by decide : 0 + 0 ≤ _)⟩)
    dsimp only [Pt.U, Pt.locs, Pt.cells, Pt.slots] at X6 l6 y6 z6 st6 hQ6
    subst l6 y6 z6
    obtain ⟨rfl, N6q, e6⟩ := hQ6
    have N0 := Fr.app N0 N6q
    refine own_step (B := T6.setTop (mkF m 70 #[.val (.int p0), .val (.int p1), .val (.int op), .val (.int (own_batch op)), .val (.int (own_batch op))] [(.int (own_coord op))])) (fun t k => st6 t k) ?_
    refine own_step (B := T6.setTop (mkF m 75 #[.val (.int p0), .val (.int p1), .val (.int op), .val (.int (own_batch op)), .val (.int (own_batch op))] [])) (fun t k => XS.ifYes X6.here hx rfl (pc0 := 70) (pc' := 75) rfl (hb hby at_70) rfl ((if0 _ _).trans (feq (own_coord_yes hc63)).2) (by decide) (by decide) k) ?_
    refine own_step (B := T6.setTop (mkF m 77 #[.val (.int p0), .val (.int p1), .val (.int op), .val (.int (own_batch op)), .val (.int (own_batch op))] [(.int (own_batch op))])) (fun t k => XS.iload X6.here hx rfl (hb hby at_75) rfl k) ?_
    refine own_step (B := T6.setTop (mkF m 80 #[.val (.int p0), .val (.int p1), .val (.int op), .val (.int (own_batch op)), .val (.int (own_batch op))] [])) (fun t k => XS.ifNo X6.here hx rfl (hb hby at_77) rfl ((if0 _ _).trans (feq hc63).1) k) ?_
    refine own_step (B := T6.setTop (mkF m 81 #[.val (.int p0), .val (.int p1), .val (.int op), .val (.int (own_batch op)), .val (.int (own_batch op))] [(.int op)])) (fun t k => XS.iloadN X6.here hx rfl (hb hby at_80) rfl k) ?_
    obtain ⟨_, _, ⟨T7, L7, k7, n7⟩, -, X7, ⟨Lc7, hQ7, l7, y7, z7⟩, st7⟩ := Jvm.LawKit.callS X6 hx (y := (⟨"com/example/tightrope/tightrope/protocol/Wire", "isCounterRequest", "(I)Z"⟩ : MethodName)) hown (mvT hZ (hw _ (List.mem_of_getElem? (i := 7) rfl))) (mvT hZ (hw _ (List.mem_of_getElem? (i := 8) rfl))) (mvT hZ (hw _ (List.mem_of_getElem? (i := 2) rfl))) (mvT hZ (hw _ (List.mem_of_getElem? (i := 9) rfl))) (by decide) (backOf (W := 0) (rm3 l Z a0 hw [] op  h0 n0 Z0 ) hZ (hw _ (List.mem_of_getElem? (i := 9) rfl)) (hw _ (List.mem_of_getElem? (i := 2) rfl)) (by decide) (by decide)) (g := (mkF m 81 #[.val (.int p0), .val (.int p1), .val (.int op), .val (.int (own_batch op)), .val (.int (own_batch op))] [(.int op)])) rfl (by rw [hml]; rfl) (argsL := [(.int op)]) (rest := []) (lenOf pd_0 rfl) rfl (by show 2 * 0 + _ ≤ _; exact Nat.le_of_eq rfl) (hb hby at_81) (fun _ _ => ⟨rfl, e6, (by decide : 0 + 0 ≤ _), (by decide : 0 + 0 ≤ _)⟩)
    dsimp only [Pt.U, Pt.locs, Pt.cells, Pt.slots] at X7 l7 y7 z7 st7 hQ7
    subst l7 y7 z7
    obtain ⟨rfl, N7q, e7⟩ := hQ7
    have N0 := Fr.app N0 N7q
    refine own_step (B := T7.setTop (mkF m 84 #[.val (.int p0), .val (.int p1), .val (.int op), .val (.int (own_batch op)), .val (.int (own_batch op))] [(.int (own_count op))])) (fun t k => st7 t k) ?_
    refine own_step (B := T7.setTop (mkF m 89 #[.val (.int p0), .val (.int p1), .val (.int op), .val (.int (own_batch op)), .val (.int (own_batch op))] [])) (fun t k => XS.ifYes X7.here hx rfl (pc0 := 84) (pc' := 89) rfl (hb hby at_84) rfl ((if0 _ _).trans (teq (own_count_no hc63)).1) (by decide) (by decide) k) ?_
    refine own_step (B := T7.setTop (mkF m 90 #[.val (.int p0), .val (.int p1), .val (.int op), .val (.int (own_batch op)), .val (.int (own_batch op))] [(.int (1 : Int32))])) (fun t k => XS.iconst X7.here hx rfl (hb hby at_89) k) ?_
    exact own_retN X7 hx hlk (t := .boolean) Bd.returns (by simp) (hb hby at_90) (by decide) (by decide) (by exact ⟨rfl, N0⟩)
set_option maxRecDepth 65536 in
set_option maxHeartbeats 40000000 in
theorem comes_1 {Post : Tables → Env → Array Value → State → Outcome → State → Prop} (hpost : ∀ tb e args s v u, (limb_1_1.after args s (.returned v) u = true ∧ limb_1_2.after args s (.returned v) u = true ∧ True) → FrameEnd s (.returned v) u (Jvm.fieldLocs frame_1_writes args s ++ Jvm.arrayLocs frame_1_arrays args s ++ Jvm.staticLocs frame_1_statics s) 0 0 → Post tb e args s (.returned v) u) :
    ArmFor flags0 classFile x code maxLocals ret World_1 tables_1 room_1 Calls_1 rest_1 Pre_1 Post := by
  intro l hfl _ _ p e ha hc hk s m args below hf hA hF happ hP
  obtain ⟨hcalls, hrest, hpre⟩ := hP
  obtain ⟨-, -, -, hnamed, -, -, -, hat⟩ := (Spec.applies_iff hf).mp happ
  obtain ⟨hg, hn⟩ := and_e (Cond.before_iff.mp (show (Jvm.Cond.and given_1 narrow_1).before args s = true from hpre))
  obtain ⟨g0, k0⟩ := and_e hg
  obtain ⟨g1, k1⟩ := and_e k0
  obtain ⟨w0, w1, rfl⟩ : ∃ w0 w1 : Value, args = #[w0, w1] := by
    have hs : args.size = 2 := by simpa [Cond.value, given_1] using g0
    obtain ⟨L⟩ := args
    match L, hs with
    | [w0, w1], _ => exact ⟨w0, w1, rfl⟩
  have hw := fun d (hd : d ∈ tables_1) => atoms_spec (ws := Jvm.Cond.code x code maxLocals ret :: tables_1) hat d (List.mem_cons_of_mem _ hd)
  have hfit : Fit s := fun {y c} hc i hi => by
    obtain ⟨ha, rfl⟩ := Array.getElem?_eq_some_iff.mp hc
    have q := List.all_eq_true.mp ((Array.all_eq_true_iff_forall_mem.mp hF) _ (Array.getElem_mem ha)) i (List.mem_range.mpr hi)
    simpa [Array.getElem?_eq_getElem hi] using q
  obtain ⟨i0, ei0⟩ := is_v g1
  obtain rfl : w0 = (.int i0) := Option.some.inj ei0
  obtain ⟨i1, ei1⟩ := is_v k1
  obtain rfl : w1 = (.int i1) := Option.some.inj ei1
  obtain ⟨n, o, h1, h2, h3, _, L, rfl, ⟨rfl, N⟩, hq⟩ := rm0 l s _ hw tables_1 i0 i1 s.heap s.heap.size (Nat.le_refl _)  p e ha hc hk s m _ below hf ((Spec.applies_iff_loose hf).mp happ).1 ⟨rfl, State.Warmed39.refl s, rfl⟩ trivial
  refine ⟨n, _, h1, h2, h3, hpost _ _ _ _ _ _ ⟨Cond.after_iff.mpr rfl, Cond.after_iff.mpr (eq_i res_at (Term.int_eval (1)) rfl), trivial⟩ ⟨hq.1, hq.2.1, (hq.2.2.sift fun y hy => Or.inr (N y hy)).mono (by decide) (by decide)⟩⟩
theorem main_1_1 : Claimed_1_1 := comes_1 fun _ _ _ _ _ _ h hF => ⟨h.1, hF⟩
theorem main_1_2 : Claimed_1_2 := comes_1 fun _ _ _ _ _ _ h hF => ⟨h.2.1, hF⟩
end Jvm.Pilot.@@N@@
namespace Jvm.Pilot.@@N@@
open Jvm Jvm.ClassFile Sem Op Lib Jvm.Free Jvm.Stand Jvm.Pilot.@@N@@.Jvm.D
/-! MADE BY PROGRAM (witnessworld.py) out of the Statement's table words and the real class files: 9 classes; the members and pool entries that the words name. The judged class is class 1, her method 1. -/
namespace start1
open Jvm.ClassFile
def u (s : String) : CpInfo := .utf8 (stringToUtf16 s)
/-- a pool by its gaps: so many unusable entries, then the entry; so many at the end -/
def gap : Nat → List CpInfo → List CpInfo
  | 0, r => r
  | n + 1, r => .unusable :: gap n r
def poolList (es : List (Nat × CpInfo)) (last : Nat) : List CpInfo := es.foldr (fun e r => gap e.1 (e.2 :: r)) (gap last [])
def pool (es : List (Nat × CpInfo)) (last : Nat) : Array CpInfo := ⟨poolList es last⟩
def fileOf (pool : Array CpInfo) (this : Nat) (attrs : Array Attribute := #[]) (ms : Array MethodInfo := #[]) (fl : Nat := 33) (sup : Nat := 0) (ifs : Array Nat := #[]) (fds : Array FieldInfo := #[]) : ClassFile where
  minorVersion := 0
  majorVersion := 65
  constantPool := pool
  accessFlags := fl
  thisClass := this
  superClass := sup
  interfaces := ifs
  fields := fds
  methods := ms
  attributes := attrs
def plain (name : String) (sup : Option ClassId) : Class where
  name := name
  kind := .ordinary
  loader := none
  accessFlags := 33
  super := sup
  interfaces := #[]
  cf := none
  fields := #[]
  methods := #[]
  instanceTypes := #[]
  staticTypes := #[]
  resolved := #[]
  callSites := []
  init := .initialized
  statics := none
  mirror := none

def pool0 : Array CpInfo := pool [(5, u "<init>"), (0, u "()V"), (1, .class_ 10), (1, u "java/lang/Object")] 113

def k0m0 : Method := { name := "<init>", desc := "()V", sig := { parameters := [], returnType := none }, accessFlags := 1, code := none }
/-- java/lang/Object -/
def k0 : Class := { plain "java/lang/Object" none with
  accessFlags := 33
  interfaces := #[]
  cf := some (fileOf pool0 8 #[] #[{ accessFlags := 1, nameIndex := 5, descriptorIndex := 6, attributes := #[] }] 33 0 #[] #[])
  fields := #[]
  methods := #[k0m0]
  instanceTypes := #[]
  staticTypes := #[]
  resolved := Array.replicate 124 none
  statics := none }

def pool1 : Array CpInfo := pool [(2, .class_ 4), (1, u "java/lang/Object"), (0, u "<init>"), (0, u "()V"), (0, .methodref 8 9), (0, .class_ 10), (0, .nameAndType 11 12), (0, u "com/example/tightrope/tightrope/protocol/Wire"), (0, u "isBatchable"), (0, u "(I)Z"), (0, .methodref 8 14), (0, .nameAndType 15 12), (0, u "isCoordinatedClusterRequest"), (0, .methodref 8 17), (0, .nameAndType 18 12), (0, u "isCounterRequest"), (0, .class_ 20), (0, u "com/example/tightrope/tightrope/protocol/WireIsBatchablePinLaw"), (2, u "law"), (0, u "(II)Z")] 3

def k1m0 : Method := { name := "<init>", desc := "()V", sig := { parameters := [], returnType := none }, accessFlags := 2, code := none }
def k1c1 : Code := { maxStack := 2, maxLocals := 5, code := code, exceptionTable := #[], attributes := #[] }
def k1m1 : Method := { name := "law", desc := "(II)Z", sig := { parameters := [.int, .int], returnType := some .boolean }, accessFlags := 9, code := some k1c1 }
/-- com/example/tightrope/tightrope/protocol/WireIsBatchablePinLaw -/
def k1 : Class := { plain "com/example/tightrope/tightrope/protocol/WireIsBatchablePinLaw" (some 0) with
  accessFlags := 49
  interfaces := #[]
  cf := some (fileOf pool1 19 #[] #[{ accessFlags := 2, nameIndex := 5, descriptorIndex := 6, attributes := #[] }, { accessFlags := 9, nameIndex := 23, descriptorIndex := 24, attributes := #[] }] 49 2 #[] #[])
  fields := #[]
  methods := #[k1m0, k1m1]
  instanceTypes := #[]
  staticTypes := #[]
  resolved := Array.replicate 28 none
  statics := none }

def pool2 : Array CpInfo := pool [(2, .class_ 4), (1, u "java/lang/Object"), (0, u "<init>"), (0, u "()V"), (33, .class_ 42), (1, u "com/example/tightrope/tightrope/protocol/Wire"), (66, u "MAGIC"), (0, u "I"), (2, u "WRITE"), (0, u "B"), (1, u "READ"), (1, u "INSTALL"), (1, u "APPEND"), (1, u "LATEST"), (1, u "FETCH"), (1, u "STATS"), (1, u "VERSIONS"), (1, u "SETTLE"), (1, u "LISTINGS"), (1, u "VOTE"), (1, u "REPLICATE"), (1, u "PROBE"), (1, u "LEADER"), (1, u "ABANDON"), (1, u "LEARN"), (1, u "SNAPSHOT"), (1, u "ADD"), (1, u "GET"), (1, u "SUBTRACT"), (1, u "SPREAD"), (1, u "DECIDE"), (1, u "BATCH"), (1, u "LEAD"), (1, u "INSTALL_DECIDED"), (1, u "LEARN_DECIDED"), (1, u "CURRENT"), (1, u "PREPARE"), (1, u "OUTCOME"), (1, u "POLL"), (1, u "APPEND_DECIDED"), (1, u "WRITE_IF"), (1, u "INSTALL_COMPARING"), (1, u "APPEND_IF"), (1, u "LEARN_FETCHING"), (1, u "OK"), (1, u "REFUSED"), (0, u "NOT_LEADER"), (0, u "ABSENT"), (0, u "PRESENT"), (0, u "LISTED"), (0, u "UNLISTED"), (0, u "GIVEN_UP"), (0, u "SUPERSEDED"), (0, u "FREE"), (0, u "HELD"), (0, u "COMMIT"), (0, u "ABORT"), (0, u "PREPARED"), (0, u "COMMITTED"), (0, u "ABORTED"), (0, u "DONE"), (0, u "UNHEARD"), (0, u "SUBTRACTED"), (0, u "SHORT"), (0, u "UNDECIDED"), (0, u "LOGGED"), (0, u "MAX_MESSAGE_BYTES"), (1, u "MAX_LISTINGS"), (0, u "MAX_WAIT_MS"), (0, u "J"), (2, u "MAX_REQUEST_BYTES"), (1, u "OPENING_TIMEOUT_MS"), (1, u "MAX_CONNECTIONS"), (3, u "isCoordinatedClusterRequest"), (0, u "(I)Z"), (1, u "isBatchable"), (0, u "isCounterRequest")] 35

def k2m0 : Method := { name := "<init>", desc := "()V", sig := { parameters := [], returnType := none }, accessFlags := 2, code := none }
def k2c1 : Code := { maxStack := 1, maxLocals := 1, code := prog_97_method_2_code, exceptionTable := #[], attributes := #[] }
def k2m1 : Method := { name := "isCoordinatedClusterRequest", desc := "(I)Z", sig := { parameters := [.int], returnType := some .boolean }, accessFlags := 9, code := some k2c1 }
def k2c2 : Code := { maxStack := 1, maxLocals := 1, code := prog_97_method_3_code, exceptionTable := #[], attributes := #[] }
def k2m2 : Method := { name := "isBatchable", desc := "(I)Z", sig := { parameters := [.int], returnType := some .boolean }, accessFlags := 9, code := some k2c2 }
def k2c3 : Code := { maxStack := 1, maxLocals := 1, code := prog_97_method_4_code, exceptionTable := #[], attributes := #[] }
def k2m3 : Method := { name := "isCounterRequest", desc := "(I)Z", sig := { parameters := [.int], returnType := some .boolean }, accessFlags := 9, code := some k2c3 }
/-- com/example/tightrope/tightrope/protocol/Wire -/
def k2 : Class := { plain "com/example/tightrope/tightrope/protocol/Wire" (some 0) with
  accessFlags := 49
  interfaces := #[]
  cf := some (fileOf pool2 40 #[] #[{ accessFlags := 2, nameIndex := 5, descriptorIndex := 6, attributes := #[] }, { accessFlags := 9, nameIndex := 222, descriptorIndex := 223, attributes := #[] }, { accessFlags := 9, nameIndex := 225, descriptorIndex := 223, attributes := #[] }, { accessFlags := 9, nameIndex := 226, descriptorIndex := 223, attributes := #[] }] 49 2 #[] #[{ accessFlags := 25, nameIndex := 109, descriptorIndex := 110, attributes := #[] }, { accessFlags := 25, nameIndex := 113, descriptorIndex := 114, attributes := #[] }, { accessFlags := 25, nameIndex := 116, descriptorIndex := 114, attributes := #[] }, { accessFlags := 25, nameIndex := 118, descriptorIndex := 114, attributes := #[] }, { accessFlags := 25, nameIndex := 120, descriptorIndex := 114, attributes := #[] }, { accessFlags := 25, nameIndex := 122, descriptorIndex := 114, attributes := #[] }, { accessFlags := 25, nameIndex := 124, descriptorIndex := 114, attributes := #[] }, { accessFlags := 25, nameIndex := 126, descriptorIndex := 114, attributes := #[] }, { accessFlags := 25, nameIndex := 128, descriptorIndex := 114, attributes := #[] }, { accessFlags := 25, nameIndex := 130, descriptorIndex := 114, attributes := #[] }, { accessFlags := 25, nameIndex := 132, descriptorIndex := 114, attributes := #[] }, { accessFlags := 25, nameIndex := 134, descriptorIndex := 114, attributes := #[] }, { accessFlags := 25, nameIndex := 136, descriptorIndex := 114, attributes := #[] }, { accessFlags := 25, nameIndex := 138, descriptorIndex := 114, attributes := #[] }, { accessFlags := 25, nameIndex := 140, descriptorIndex := 114, attributes := #[] }, { accessFlags := 25, nameIndex := 142, descriptorIndex := 114, attributes := #[] }, { accessFlags := 25, nameIndex := 144, descriptorIndex := 114, attributes := #[] }, { accessFlags := 25, nameIndex := 146, descriptorIndex := 114, attributes := #[] }, { accessFlags := 25, nameIndex := 148, descriptorIndex := 114, attributes := #[] }, { accessFlags := 25, nameIndex := 150, descriptorIndex := 114, attributes := #[] }, { accessFlags := 25, nameIndex := 152, descriptorIndex := 114, attributes := #[] }, { accessFlags := 25, nameIndex := 154, descriptorIndex := 114, attributes := #[] }, { accessFlags := 25, nameIndex := 156, descriptorIndex := 114, attributes := #[] }, { accessFlags := 25, nameIndex := 158, descriptorIndex := 114, attributes := #[] }, { accessFlags := 25, nameIndex := 160, descriptorIndex := 114, attributes := #[] }, { accessFlags := 25, nameIndex := 162, descriptorIndex := 114, attributes := #[] }, { accessFlags := 25, nameIndex := 164, descriptorIndex := 114, attributes := #[] }, { accessFlags := 25, nameIndex := 166, descriptorIndex := 114, attributes := #[] }, { accessFlags := 25, nameIndex := 168, descriptorIndex := 114, attributes := #[] }, { accessFlags := 25, nameIndex := 170, descriptorIndex := 114, attributes := #[] }, { accessFlags := 25, nameIndex := 172, descriptorIndex := 114, attributes := #[] }, { accessFlags := 25, nameIndex := 174, descriptorIndex := 114, attributes := #[] }, { accessFlags := 25, nameIndex := 176, descriptorIndex := 114, attributes := #[] }, { accessFlags := 25, nameIndex := 178, descriptorIndex := 114, attributes := #[] }, { accessFlags := 25, nameIndex := 180, descriptorIndex := 114, attributes := #[] }, { accessFlags := 25, nameIndex := 182, descriptorIndex := 114, attributes := #[] }, { accessFlags := 25, nameIndex := 184, descriptorIndex := 114, attributes := #[] }, { accessFlags := 25, nameIndex := 186, descriptorIndex := 114, attributes := #[] }, { accessFlags := 25, nameIndex := 187, descriptorIndex := 114, attributes := #[] }, { accessFlags := 25, nameIndex := 188, descriptorIndex := 114, attributes := #[] }, { accessFlags := 25, nameIndex := 189, descriptorIndex := 114, attributes := #[] }, { accessFlags := 25, nameIndex := 190, descriptorIndex := 114, attributes := #[] }, { accessFlags := 25, nameIndex := 191, descriptorIndex := 114, attributes := #[] }, { accessFlags := 25, nameIndex := 192, descriptorIndex := 114, attributes := #[] }, { accessFlags := 25, nameIndex := 193, descriptorIndex := 114, attributes := #[] }, { accessFlags := 25, nameIndex := 194, descriptorIndex := 114, attributes := #[] }, { accessFlags := 25, nameIndex := 195, descriptorIndex := 114, attributes := #[] }, { accessFlags := 25, nameIndex := 196, descriptorIndex := 114, attributes := #[] }, { accessFlags := 25, nameIndex := 197, descriptorIndex := 114, attributes := #[] }, { accessFlags := 25, nameIndex := 198, descriptorIndex := 114, attributes := #[] }, { accessFlags := 25, nameIndex := 199, descriptorIndex := 114, attributes := #[] }, { accessFlags := 25, nameIndex := 200, descriptorIndex := 114, attributes := #[] }, { accessFlags := 25, nameIndex := 201, descriptorIndex := 114, attributes := #[] }, { accessFlags := 25, nameIndex := 202, descriptorIndex := 114, attributes := #[] }, { accessFlags := 25, nameIndex := 203, descriptorIndex := 114, attributes := #[] }, { accessFlags := 25, nameIndex := 204, descriptorIndex := 114, attributes := #[] }, { accessFlags := 25, nameIndex := 205, descriptorIndex := 114, attributes := #[] }, { accessFlags := 25, nameIndex := 206, descriptorIndex := 114, attributes := #[] }, { accessFlags := 25, nameIndex := 207, descriptorIndex := 110, attributes := #[] }, { accessFlags := 25, nameIndex := 209, descriptorIndex := 110, attributes := #[] }, { accessFlags := 25, nameIndex := 210, descriptorIndex := 211, attributes := #[] }, { accessFlags := 25, nameIndex := 214, descriptorIndex := 110, attributes := #[] }, { accessFlags := 25, nameIndex := 216, descriptorIndex := 110, attributes := #[] }, { accessFlags := 25, nameIndex := 218, descriptorIndex := 110, attributes := #[] }])
  fields := #[{ name := "MAGIC", type := .int, accessFlags := 25, slot := 0, constantValue := 0 }, { name := "WRITE", type := .byte, accessFlags := 25, slot := 1, constantValue := 0 }, { name := "READ", type := .byte, accessFlags := 25, slot := 2, constantValue := 0 }, { name := "INSTALL", type := .byte, accessFlags := 25, slot := 3, constantValue := 0 }, { name := "APPEND", type := .byte, accessFlags := 25, slot := 4, constantValue := 0 }, { name := "LATEST", type := .byte, accessFlags := 25, slot := 5, constantValue := 0 }, { name := "FETCH", type := .byte, accessFlags := 25, slot := 6, constantValue := 0 }, { name := "STATS", type := .byte, accessFlags := 25, slot := 7, constantValue := 0 }, { name := "VERSIONS", type := .byte, accessFlags := 25, slot := 8, constantValue := 0 }, { name := "SETTLE", type := .byte, accessFlags := 25, slot := 9, constantValue := 0 }, { name := "LISTINGS", type := .byte, accessFlags := 25, slot := 10, constantValue := 0 }, { name := "VOTE", type := .byte, accessFlags := 25, slot := 11, constantValue := 0 }, { name := "REPLICATE", type := .byte, accessFlags := 25, slot := 12, constantValue := 0 }, { name := "PROBE", type := .byte, accessFlags := 25, slot := 13, constantValue := 0 }, { name := "LEADER", type := .byte, accessFlags := 25, slot := 14, constantValue := 0 }, { name := "ABANDON", type := .byte, accessFlags := 25, slot := 15, constantValue := 0 }, { name := "LEARN", type := .byte, accessFlags := 25, slot := 16, constantValue := 0 }, { name := "SNAPSHOT", type := .byte, accessFlags := 25, slot := 17, constantValue := 0 }, { name := "ADD", type := .byte, accessFlags := 25, slot := 18, constantValue := 0 }, { name := "GET", type := .byte, accessFlags := 25, slot := 19, constantValue := 0 }, { name := "SUBTRACT", type := .byte, accessFlags := 25, slot := 20, constantValue := 0 }, { name := "SPREAD", type := .byte, accessFlags := 25, slot := 21, constantValue := 0 }, { name := "DECIDE", type := .byte, accessFlags := 25, slot := 22, constantValue := 0 }, { name := "BATCH", type := .byte, accessFlags := 25, slot := 23, constantValue := 0 }, { name := "LEAD", type := .byte, accessFlags := 25, slot := 24, constantValue := 0 }, { name := "INSTALL_DECIDED", type := .byte, accessFlags := 25, slot := 25, constantValue := 0 }, { name := "LEARN_DECIDED", type := .byte, accessFlags := 25, slot := 26, constantValue := 0 }, { name := "CURRENT", type := .byte, accessFlags := 25, slot := 27, constantValue := 0 }, { name := "PREPARE", type := .byte, accessFlags := 25, slot := 28, constantValue := 0 }, { name := "OUTCOME", type := .byte, accessFlags := 25, slot := 29, constantValue := 0 }, { name := "POLL", type := .byte, accessFlags := 25, slot := 30, constantValue := 0 }, { name := "APPEND_DECIDED", type := .byte, accessFlags := 25, slot := 31, constantValue := 0 }, { name := "WRITE_IF", type := .byte, accessFlags := 25, slot := 32, constantValue := 0 }, { name := "INSTALL_COMPARING", type := .byte, accessFlags := 25, slot := 33, constantValue := 0 }, { name := "APPEND_IF", type := .byte, accessFlags := 25, slot := 34, constantValue := 0 }, { name := "LEARN_FETCHING", type := .byte, accessFlags := 25, slot := 35, constantValue := 0 }, { name := "OK", type := .byte, accessFlags := 25, slot := 36, constantValue := 0 }, { name := "REFUSED", type := .byte, accessFlags := 25, slot := 37, constantValue := 0 }, { name := "NOT_LEADER", type := .byte, accessFlags := 25, slot := 38, constantValue := 0 }, { name := "ABSENT", type := .byte, accessFlags := 25, slot := 39, constantValue := 0 }, { name := "PRESENT", type := .byte, accessFlags := 25, slot := 40, constantValue := 0 }, { name := "LISTED", type := .byte, accessFlags := 25, slot := 41, constantValue := 0 }, { name := "UNLISTED", type := .byte, accessFlags := 25, slot := 42, constantValue := 0 }, { name := "GIVEN_UP", type := .byte, accessFlags := 25, slot := 43, constantValue := 0 }, { name := "SUPERSEDED", type := .byte, accessFlags := 25, slot := 44, constantValue := 0 }, { name := "FREE", type := .byte, accessFlags := 25, slot := 45, constantValue := 0 }, { name := "HELD", type := .byte, accessFlags := 25, slot := 46, constantValue := 0 }, { name := "COMMIT", type := .byte, accessFlags := 25, slot := 47, constantValue := 0 }, { name := "ABORT", type := .byte, accessFlags := 25, slot := 48, constantValue := 0 }, { name := "PREPARED", type := .byte, accessFlags := 25, slot := 49, constantValue := 0 }, { name := "COMMITTED", type := .byte, accessFlags := 25, slot := 50, constantValue := 0 }, { name := "ABORTED", type := .byte, accessFlags := 25, slot := 51, constantValue := 0 }, { name := "DONE", type := .byte, accessFlags := 25, slot := 52, constantValue := 0 }, { name := "UNHEARD", type := .byte, accessFlags := 25, slot := 53, constantValue := 0 }, { name := "SUBTRACTED", type := .byte, accessFlags := 25, slot := 54, constantValue := 0 }, { name := "SHORT", type := .byte, accessFlags := 25, slot := 55, constantValue := 0 }, { name := "UNDECIDED", type := .byte, accessFlags := 25, slot := 56, constantValue := 0 }, { name := "LOGGED", type := .byte, accessFlags := 25, slot := 57, constantValue := 0 }, { name := "MAX_MESSAGE_BYTES", type := .int, accessFlags := 25, slot := 58, constantValue := 0 }, { name := "MAX_LISTINGS", type := .int, accessFlags := 25, slot := 59, constantValue := 0 }, { name := "MAX_WAIT_MS", type := .long, accessFlags := 25, slot := 60, constantValue := 0 }, { name := "MAX_REQUEST_BYTES", type := .int, accessFlags := 25, slot := 61, constantValue := 0 }, { name := "OPENING_TIMEOUT_MS", type := .int, accessFlags := 25, slot := 62, constantValue := 0 }, { name := "MAX_CONNECTIONS", type := .int, accessFlags := 25, slot := 63, constantValue := 0 }]
  methods := #[k2m0, k2m1, k2m2, k2m3]
  instanceTypes := #[]
  staticTypes := #[.int, .byte, .byte, .byte, .byte, .byte, .byte, .byte, .byte, .byte, .byte, .byte, .byte, .byte, .byte, .byte, .byte, .byte, .byte, .byte, .byte, .byte, .byte, .byte, .byte, .byte, .byte, .byte, .byte, .byte, .byte, .byte, .byte, .byte, .byte, .byte, .byte, .byte, .byte, .byte, .byte, .byte, .byte, .byte, .byte, .byte, .byte, .byte, .byte, .byte, .byte, .byte, .byte, .byte, .byte, .byte, .byte, .byte, .int, .int, .long, .int, .int, .int]
  resolved := Array.replicate 262 none
  statics := none }

def pool3 : Array CpInfo := pool [(1, u "java/lang/Cloneable"), (0, .class_ 1), (0, u "java/lang/Object"), (0, .class_ 3)] 3

/-- java/lang/Cloneable -/
def k3 : Class := { plain "java/lang/Cloneable" (some 0) with
  accessFlags := 1537
  interfaces := #[]
  cf := some (fileOf pool3 2 #[] #[] 1537 4 #[] #[])
  fields := #[]
  methods := #[]
  instanceTypes := #[]
  staticTypes := #[]
  resolved := Array.replicate 8 none
  statics := none }

def pool4 : Array CpInfo := pool [(1, u "java/io/Serializable"), (0, .class_ 1), (0, u "java/lang/Object"), (0, .class_ 3)] 3

/-- java/io/Serializable -/
def k4 : Class := { plain "java/io/Serializable" (some 0) with
  accessFlags := 1537
  interfaces := #[]
  cf := some (fileOf pool4 2 #[] #[] 1537 4 #[] #[])
  fields := #[]
  methods := #[]
  instanceTypes := #[]
  staticTypes := #[]
  resolved := Array.replicate 8 none
  statics := none }

/-- the primitive byte -/
def k5 : Class := { plain "byte" none with kind := .primitive 'B', accessFlags := 0x411 }
/-- [B -/
def k6 : Class := { plain "[B" (some 0) with kind := .array 5 .byte, interfaces := #[3, 4], accessFlags := 1041 }

/-- the primitive int -/
def k7 : Class := { plain "int" none with kind := .primitive 'I', accessFlags := 0x411 }
/-- [I -/
def k8 : Class := { plain "[I" (some 0) with kind := .array 7 .int, interfaces := #[3, 4], accessFlags := 1041 }

def heap : Heap := #[]
def classes : Array Class := #[k0, k1, k2, k3, k4, k5, k6, k7, k8]
def interned : List (Array UInt16 × Addr) := []
def slotsUsed : Nat := 0
def theMethod : MethodId := ⟨1, 1⟩
def args0 : Array Value := #[.int 5, .int 3]
def aboutOver (below : List Frame) : State where
  vm := { classes := classes, interned := interned.toArray }
  heap := heap
  slotsUsed := slotsUsed
  threads := #[{ frames := .invoking theMethod args0 :: below }]
def below0 : List Frame := [.native { method := ⟨0, 0⟩, args := #[] }]
def about1 : State := aboutOver below0
def p0 : Program := .bare "" "" ""
def e0 : Env := launch0.env 0 0 0
theorem w_frames : about1.frames = Frame.invoking theMethod args0 :: below0 := rfl
set_option maxRecDepth 65536 in
theorem w_args : argsFit about1.vm theMethod args0 = true := by decide +kernel
set_option maxRecDepth 65536 in
theorem w_heap : heapFits about1 = true := by decide +kernel
set_option maxRecDepth 65536 in
theorem w_runnable : about1.curStatus? = some .runnable := by decide +kernel
set_option maxRecDepth 65536 in
theorem w_alone : about1.alone = true := by decide +kernel
set_option maxRecDepth 65536 in
theorem w_named : about1.methodNamed? x = some theMethod := by decide +kernel
set_option maxRecDepth 65536 in
theorem w_hears : about1.hears theMethod below0 = true := by decide +kernel
set_option maxRecDepth 65536 in
theorem w_ripe : about1.ripe theMethod args0 below0 = true := by decide +kernel
theorem w_running : about1.status = .running := rfl
set_option maxRecDepth 65536 in
theorem w_room : about1.hasRoom e0.platform room_1 = true :=
  launch0.hasRoom_least _ room_1 (by decide +kernel) (by decide +kernel) (by decide +kernel) (by decide +kernel) (by decide +kernel) (by decide +kernel)
theorem allAtoms_all (ts : List Jvm.Cond) (a : Array Jvm.Value) (st : Jvm.State) : (allAtoms ts).before a st = ts.all (fun c => c.before a st) := by
  induction ts with
  | nil => rfl
  | cons c t ih =>
    show (Jvm.Cond.and c (allAtoms t)).before a st = _
    rw [Jvm.Cond.before_and, ih, List.all_cons]
def words1 : List Jvm.Cond := Jvm.Cond.code x code maxLocals ret :: tables_1
/-- a 'code' word, met by the world's own term for the bytes: nothing is compared byte by byte -/
theorem code_word {y : MethodName} {bytes : ByteArray} {mx : Nat} {rt : Option FieldType} {a : Array Value} {s : State} {m : MethodId} {meth : Method} {c : Code} (h1 : s.methodNamed? y = some m) (h2 : s.vm.method? m = some meth) (h3 : meth.code = some c) (h4 : c.code = bytes)
    (h5 : (c.maxLocals == mx && c.exceptionTable.isEmpty && decide (c.maxStack ≤ mostOperands) && decide (meth.sig.returnType = rt) && !meth.locks && decide (parseMethodDescriptor y.desc = some meth.sig)) = true) : (Jvm.Cond.code y bytes mx rt).before a s = true := by
  simp only [Bool.and_eq_true, beq_iff_eq, Bool.not_eq_true', decide_eq_true_eq] at h5
  obtain ⟨⟨⟨⟨⟨g1, g2⟩, g3⟩, g4⟩, g5⟩, g6⟩ := h5
  simp [Cond.before, Cond.holds, Cond.value, h1, h2, h3, h4, g1, g2, g3, g4, g5, g6]
def isCode : Jvm.Cond → Bool
  | .code _ _ _ _ => true
  | _ => false
theorem all_split {L : List Jvm.Cond} {P : Jvm.Cond → Bool} (h1 : L.all (fun c => isCode c || P c) = true) (h2 : ∀ c ∈ L.filter isCode, P c = true) : L.all P = true := by
  refine List.all_eq_true.mpr fun c hc => ?_
  have h := List.all_eq_true.mp h1 c hc
  rcases Bool.eq_false_or_eq_true (isCode c) with hi | hi
  · exact h2 c (List.mem_filter.mpr ⟨hc, hi⟩)
  · simpa [hi] using h
set_option maxRecDepth 65536 in
theorem w_c0 : (Jvm.Cond.code x code maxLocals ret).before args0 about1 = true := code_word (m := ⟨1, 1⟩) (meth := k1m1) (c := k1c1) (by decide +kernel) rfl rfl rfl (by decide +kernel)
set_option maxRecDepth 65536 in
theorem w_c1 : (Jvm.Cond.code ({ cls := "com/example/tightrope/tightrope/protocol/Wire", name := "isBatchable", desc := "(I)Z" } : Jvm.MethodName) prog_97_method_3_code (1 : Nat) (Option.some Jvm.ClassFile.FieldType.boolean)).before args0 about1 = true := code_word (m := ⟨2, 2⟩) (meth := k2m2) (c := k2c2) (by decide +kernel) rfl rfl rfl (by decide +kernel)
set_option maxRecDepth 65536 in
theorem w_c2 : (Jvm.Cond.code ({ cls := "com/example/tightrope/tightrope/protocol/Wire", name := "isCoordinatedClusterRequest", desc := "(I)Z" } : Jvm.MethodName) prog_97_method_2_code (1 : Nat) (Option.some Jvm.ClassFile.FieldType.boolean)).before args0 about1 = true := code_word (m := ⟨2, 1⟩) (meth := k2m1) (c := k2c1) (by decide +kernel) rfl rfl rfl (by decide +kernel)
set_option maxRecDepth 65536 in
theorem w_c3 : (Jvm.Cond.code ({ cls := "com/example/tightrope/tightrope/protocol/Wire", name := "isCounterRequest", desc := "(I)Z" } : Jvm.MethodName) prog_97_method_4_code (1 : Nat) (Option.some Jvm.ClassFile.FieldType.boolean)).before args0 about1 = true := code_word (m := ⟨2, 3⟩) (meth := k2m3) (c := k2c3) (by decide +kernel) rfl rfl rfl (by decide +kernel)
def codes1 : List Jvm.Cond := [Jvm.Cond.code x code maxLocals ret, Jvm.Cond.code ({ cls := "com/example/tightrope/tightrope/protocol/Wire", name := "isBatchable", desc := "(I)Z" } : Jvm.MethodName) prog_97_method_3_code (1 : Nat) (Option.some Jvm.ClassFile.FieldType.boolean), Jvm.Cond.code ({ cls := "com/example/tightrope/tightrope/protocol/Wire", name := "isCoordinatedClusterRequest", desc := "(I)Z" } : Jvm.MethodName) prog_97_method_2_code (1 : Nat) (Option.some Jvm.ClassFile.FieldType.boolean), Jvm.Cond.code ({ cls := "com/example/tightrope/tightrope/protocol/Wire", name := "isCounterRequest", desc := "(I)Z" } : Jvm.MethodName) prog_97_method_4_code (1 : Nat) (Option.some Jvm.ClassFile.FieldType.boolean)]
set_option maxRecDepth 65536 in
theorem codes_eq : words1.filter isCode = codes1 := rfl
theorem w_codes : ∀ c ∈ words1.filter isCode, c.before args0 about1 = true := by
  rw [codes_eq]
  intro c hc
  simp only [codes1, List.mem_cons, List.not_mem_nil, or_false] at hc
  rcases hc with rfl | rfl | rfl | rfl
  · exact w_c0
  · exact w_c1
  · exact w_c2
  · exact w_c3
set_option maxRecDepth 65536 in
theorem w_t1 : words1.all (fun c => isCode c || c.before args0 about1) = true := by decide +kernel
theorem w_tables : (allAtoms (Jvm.Cond.code x code maxLocals ret :: tables_1)).before args0 about1 = true := by
  rw [allAtoms_all]
  show words1.all (fun c => c.before args0 about1) = true
  refine all_split ?_ w_codes
  rw [w_t1]
set_option maxRecDepth 65536 in
theorem w_case : (Jvm.Cond.and given_1 narrow_1).before args0 about1 = true := by decide +kernel
theorem w_applies : (headSpec (Jvm.Cond.code x code maxLocals ret :: tables_1) room_1).applies x e0.platform about1 = true :=
  (Spec.applies_iff w_frames).mpr ⟨w_running, w_runnable, w_alone, w_named, w_hears, w_ripe, w_room, w_tables⟩
theorem atStart : AtStart classFile x code maxLocals ret World_1 tables_1 room_1 Calls_1 rest_1 Pre_1 launch0 p0 e0 about1 theMethod args0 below0 :=
  ⟨lists_1, trivial, launch0.admits_env _ _ _, launch0.least_env, fairChoices_fair.cas, fairChoices_fair.clock, w_frames, w_args, w_heap, w_applies, trivial, trivial, w_case⟩
end start1
theorem witness_1 : WitnessClaimed_1 := ⟨start1.p0, start1.e0, start1.about1, start1.theMethod, start1.args0, start1.below0, start1.atStart⟩
end Jvm.Pilot.@@N@@
