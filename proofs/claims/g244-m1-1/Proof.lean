import JvmDerived
import JvmDerived.Pilot.@@N@@Statement
import JvmDerived.Pilot.@@N@@Code
set_option linter.unusedVariables false
set_option linter.unusedSimpArgs false
namespace Jvm.Pilot.@@N@@
open Jvm Jvm.ClassFile Sem Op Lib Jvm.Free Jvm.Stand Jvm.LawKit Jvm.RoadKit Bundle Jvm.Pilot.@@N@@.Jvm.D
/-! 0. the frame of a walk: from state A the body comes to an end of which Q holds -/
def own_G (tb : Tables) (e : Env) (below : List Frame) (s : State) (Q : Option Value → Heap → List Loc → Prop) (k n : Nat) (A : State) : Prop :=
  ∃ t o, Steps tb e below A t ∧ t.status = .running ∧ Ended t below o ∧ ∃ v L, o = .returned v ∧ Q v t.heap L ∧ FrameEnd s o t L k n
theorem own_step {tb : Tables} {e : Env} {below : List Frame} {s : State} {Q : Option Value → Heap → List Loc → Prop} {k n : Nat} {A B : State}
    (h : ∀ t, Steps tb e below B t → Steps tb e below A t) (g : own_G tb e below s Q k n B) : own_G tb e below s Q k n A := by
  obtain ⟨t, o, h1, h2⟩ := g
  exact ⟨t, o, h t h1, h2⟩
section Rets
variable {p : Program} {l : Launch} {e : Env} {R : Room} {s : State} {m : MethodId} {args : Array Value} {below : List Frame} {meth : Method} {c : Code} {T : State} {locs : List Loc} {cells slots : Nat} {Q : Option Value → Heap → List Loc → Prop} {k n : Nat}
theorem own_out (X : Stand p l e R s m args below meth c T locs cells slots) {v : Option Value} (hv : meth.sig.returnType = none → v = none) (hlk : meth.locks = false) {F : JFrame}
    (hs : ∀ fs, (∀ (f : JFrame) (acts : List Action), f.method = m → f.locked = none → f.entered = [] → (doReturn e (T.setTop f) acts v).1 = T.setFrames fs) → Steps p.tables e below (T.setTop F) (T.setFrames fs))
    (hk : cells ≤ k) (hn : slots ≤ n) (hQ : Q v T.heap locs) : own_G p.tables e below s Q k n (T.setTop F) := by
  obtain ⟨fs, hr, hrun, hended, hW, hsame⟩ := X.leave hv hlk
  exact ⟨_, _, hs fs hr, hrun, hended, _, _, rfl, hQ, ⟨_, rfl⟩, hW, hsame.mono hk hn⟩
theorem own_retV (X : Stand p l e R s m args below meth c T locs cells slots) (hx : p.tables.exec = Jvm.exec) (hlk : meth.locks = false) {pc : Nat} {Ls : Array Slot} (hret : meth.sig.returnType = none) (hd : decode c.code pc = .ok (.return_, 1))
    (hk : cells ≤ k) (hn : slots ≤ n) (hQ : Q none T.heap locs) : own_G p.tables e below s Q k n (T.setTop (mkF m pc Ls [])) :=
  own_out X (fun _ => rfl) hlk (fun fs hr => X.returnOut hx hret hd hr) hk hn hQ
theorem own_retN (X : Stand p l e R s m args below meth c T locs cells slots) (hx : p.tables.exec = Jvm.exec) (hlk : meth.locks = false) {pc : Nat} {Ls : Array Slot} {z : Int32} {t : FieldType} {rest : List Value} (hret : meth.sig.returnType = some t) (ht : t = .boolean ∨ t = .byte ∨ t = .char ∨ t = .short) (hd : decode c.code pc = .ok (.ireturn, 1))
    (hk : cells ≤ k) (hn : slots ≤ n) (hQ : Q (some (.int (nar t z))) T.heap locs) : own_G p.tables e below s Q k n (T.setTop (mkF m pc Ls (.int z :: rest))) :=
  own_out X (fun h => by rw [hret] at h; cases h) hlk (fun fs hr => retN X hx hret ht hd hr) hk hn hQ
theorem own_retI (X : Stand p l e R s m args below meth c T locs cells slots) (hx : p.tables.exec = Jvm.exec) (hlk : meth.locks = false) {pc : Nat} {Ls : Array Slot} {z : Int32} {rest : List Value} (hret : meth.sig.returnType = some .int) (hd : decode c.code pc = .ok (.ireturn, 1))
    (hk : cells ≤ k) (hn : slots ≤ n) (hQ : Q (some (.int z)) T.heap locs) : own_G p.tables e below s Q k n (T.setTop (mkF m pc Ls (.int z :: rest))) :=
  own_out X (fun h => by rw [hret] at h; cases h) hlk (fun fs hr => retOut X hx hret rfl (Or.inl ⟨rfl, Or.inl rfl, _, rfl⟩) hd hr) hk hn hQ
theorem own_retJ (X : Stand p l e R s m args below meth c T locs cells slots) (hx : p.tables.exec = Jvm.exec) (hlk : meth.locks = false) {pc : Nat} {Ls : Array Slot} {z : Int64} {rest : List Value} (hret : meth.sig.returnType = some .long) (hd : decode c.code pc = .ok (.lreturn, 1))
    (hk : cells ≤ k) (hn : slots ≤ n) (hQ : Q (some (.long z)) T.heap locs) : own_G p.tables e below s Q k n (T.setTop (mkF m pc Ls (.long z :: rest))) :=
  own_out X (fun h => by rw [hret] at h; cases h) hlk (fun fs hr => retOut X hx hret rfl (Or.inr (Or.inl ⟨rfl, rfl, _, rfl⟩)) hd hr) hk hn hQ
theorem own_retA (X : Stand p l e R s m args below meth c T locs cells slots) (hx : p.tables.exec = Jvm.exec) (hlk : meth.locks = false) {pc : Nat} {Ls : Array Slot} {a : Addr} {t : FieldType} {rest : List Value} (hret : meth.sig.returnType = some t) (hd : decode c.code pc = .ok (.areturn, 1)) (ht : t.isReference = true)
    (hk : cells ≤ k) (hn : slots ≤ n) (hQ : Q (some (.ref a)) T.heap locs) : own_G p.tables e below s Q k n (T.setTop (mkF m pc Ls (.ref a :: rest))) :=
  own_out X (fun h => by rw [hret] at h; cases h) hlk (fun fs hr => retOut X hx hret (by cases t <;> first | rfl | cases ht) (Or.inr (Or.inr (Or.inr (Or.inr ⟨rfl, ht, rfl⟩)))) hd hr) hk hn hQ
end Rets

theorem pd_0 : parseMethodDescriptor "(IJI)B" = some ⟨[.int, .long, .int], some .byte⟩ := by decide +kernel
theorem pd_1 : parseMethodDescriptor "([BII)Z" = some ⟨[(.array .byte), .int, .int], some .boolean⟩ := by decide +kernel
theorem pd_2 : parseMethodDescriptor "([BI)I" = some ⟨[(.array .byte), .int], some .int⟩ := by decide +kernel
/-! 1. the plain law -/
def own_hit (w k f : Int32) : Int32 := if k < f then 0 else if w = 32 then 1 else 0
def own_want (w0 w1 w2 w3 w4 f : Int32) : Int32 := if own_hit w0 0 f = 0 then (if own_hit w1 1 f = 0 then (if own_hit w2 2 f = 0 then (if own_hit w3 3 f = 0 then (if own_hit w4 4 f = 0 then -1 else 4) else 3) else 2) else 1) else 0
theorem own_and7 (x : Int32) : x &&& 7 = 0 ∨ x &&& 7 = 1 ∨ x &&& 7 = 2 ∨ x &&& 7 = 3 ∨ x &&& 7 = 4 ∨ x &&& 7 = 5 ∨ x &&& 7 = 6 ∨ x &&& 7 = 7 := by
  have m := c_mask x 7 3 (by decide) (by decide)
  simp only [← Int32.toInt_inj, Int32.reduceToInt]
  omega
/-! 2. the walks -/
theorem d1_0 : decode method_2_code 0 = .ok (.iload_n 0, 1) := by decide +kernel
theorem d1_1 : decode method_2_code 1 = .ok (.iload_n 3, 1) := by decide +kernel
theorem d1_2 : decode method_2_code 2 = .ok (.iushr, 1) := by decide +kernel
theorem d1_3 : decode method_2_code 3 = .ok (.iconst 1, 1) := by decide +kernel
theorem d1_4 : decode method_2_code 4 = .ok (.iand, 1) := by decide +kernel
theorem d1_5 : decode method_2_code 5 = .ok (.ifCond .eq 6, 3) := by decide +kernel
theorem d1_8 : decode method_2_code 8 = .ok (.bipush 32, 2) := by decide +kernel
theorem d1_10 : decode method_2_code 10 = .ok (.ireturn, 1) := by decide +kernel
theorem d1_11 : decode method_2_code 11 = .ok (.lload_n 1, 1) := by decide +kernel
theorem d1_12 : decode method_2_code 12 = .ok (.bipush 8, 2) := by decide +kernel
theorem d1_14 : decode method_2_code 14 = .ok (.iload_n 3, 1) := by decide +kernel
theorem d1_15 : decode method_2_code 15 = .ok (.imul, 1) := by decide +kernel
theorem d1_16 : decode method_2_code 16 = .ok (.lushr, 1) := by decide +kernel
theorem d1_17 : decode method_2_code 17 = .ok (.l2i, 1) := by decide +kernel
theorem d1_18 : decode method_2_code 18 = .ok (.i2b, 1) := by decide +kernel
theorem d1_19 : decode method_2_code 19 = .ok (.ireturn, 1) := by decide +kernel
theorem pn_com_example_loomwire_loomwire_chat_ChatIndexOfSpacePinLaw : plainName "com/example/loomwire/loomwire/chat/ChatIndexOfSpacePinLaw" = true := by first | (simp [plainName, overriddenIn]; done) | decide +kernel
theorem ef_rm1 (m : MethodId) (x0 : Int32) (x1 : Int64) (x2 : Int32) : entryFrame m #[(.int x0), (.long x1), (.int x2)] 4 = mkF m 0 #[.val (.int x0), .val (.long x1), .second, .val (.int x2)] [] := by first | (simp [entryFrame, mkF, argsToLocals, Value.category]; done) | rfl
def QQ_rm1 (Z : State) (p0 : Int32) (q1 : Int64) (p2 : Int32)  (h0 : Heap) (n0 : Nat) (v : Option Value) (h : Heap) (L : List Loc) : Prop := ∃ z : Int32, v = some (.int z) ∧ Fr n0 L ∧ h = h0
set_option maxRecDepth 65536 in
set_option maxHeartbeats 40000000 in
theorem rm1 (l : Launch) (Z : State) (a0 : Array Value) (hw : ∀ d ∈ tables_1, d.before a0 Z = true) (ws : List Jvm.Cond) (p0 : Int32) (q1 : Int64) (p2 : Int32)  (h0 : Heap) (n0 : Nat) (Z0 : n0 ≤ h0.size)  :
    MetFree l (⟨"com/example/loomwire/loomwire/chat/ChatIndexOfSpacePinLaw", "pick", "(IJI)B"⟩ : MethodName) (head1 (Jvm.Cond.code (⟨"com/example/loomwire/loomwire/chat/ChatIndexOfSpacePinLaw", "pick", "(IJI)B"⟩ : MethodName) method_2_code 4 (some .byte) :: ws) ({ frames := 0, cells := 0, slots := 0, locals := 0 } : Room)) (fun a U => a = #[(.int p0), (.long q1), (.int p2)] ∧ Z.Warmed39 U.vm ∧ U.heap = h0) (fun _ _ _ _ _ => True) (fun _ U o U' => ∃ v L, o = .returned v ∧ (QQ_rm1 Z p0 q1 p2 h0 n0) v U'.heap L ∧ FrameEnd U o U' L ({ frames := 0, cells := 0, slots := 0, locals := 0 } : Room).cells ({ frames := 0, cells := 0, slots := 0, locals := 0 } : Room).slots) := by
  refine MetFree.of_bodySF (plainFor_of_name pn_com_example_loomwire_loomwire_chat_ChatIndexOfSpacePinLaw) hisR ?_
  intro p e s m args below meth c s₁ Bd hml0 hP hK
  obtain ⟨rfl, hZ, hh⟩ := hP
  have hx := Bd.exec
  have hby := Bd.bytes
  have hlk : meth.locks = false := BodyLoose.notSynchronized Bd
  have hml : c.maxLocals = 4 := hml0
  have hown : s.vm.findClass "com/example/loomwire/loomwire/chat/ChatIndexOfSpacePinLaw" = some m.cls := findClass_of_methodNamed Bd.named
  have hnm := (name_of_methodNamed Bd.named Bd.method).1
  have X0 : Stand p l e ({ frames := 0, cells := 0, slots := 0, locals := 0 } : Room) s m #[(.int p0), (.long q1), (.int p2)] below meth c s₁ [] 0 0 := Stand.of_body Bd
  have e0 : s₁.heap = h0 := by rw [← hh, Bd.state]; rfl
  have N0 := Fr.nil n0
  show own_G p.tables e below s (QQ_rm1 Z p0 q1 p2 h0 n0) ({ frames := 0, cells := 0, slots := 0, locals := 0 } : Room).cells ({ frames := 0, cells := 0, slots := 0, locals := 0 } : Room).slots (s₁.setTop (entryFrame m #[(.int p0), (.long q1), (.int p2)] 4))
  refine own_step (B := s₁.setTop (mkF m 0 #[.val (.int p0), .val (.long q1), .second, .val (.int p2)] [])) (fun t k => castTop (ef_rm1 m p0 q1 p2) k) ?_
  refine own_step (B := s₁.setTop (mkF m 1 #[.val (.int p0), .val (.long q1), .second, .val (.int p2)] [(.int p0)])) (fun t k => XS.iloadN X0.here hx rfl (hb hby d1_0) rfl k) ?_
  refine own_step (B := s₁.setTop (mkF m 2 #[.val (.int p0), .val (.long q1), .second, .val (.int p2)] [(.int p2), (.int p0)])) (fun t k => XS.iloadN X0.here hx rfl (hb hby d1_1) rfl k) ?_
  refine own_step (B := s₁.setTop (mkF m 3 #[.val (.int p0), .val (.long q1), .second, .val (.int p2)] [(.int ((p0.toUInt32 >>> (p2 &&& 31).toUInt32).toInt32))])) (fun t k => XS.iushr X0.here hx rfl (hb hby d1_2) rfl k) ?_
  refine own_step (B := s₁.setTop (mkF m 4 #[.val (.int p0), .val (.long q1), .second, .val (.int p2)] [(.int (1 : Int32)), (.int ((p0.toUInt32 >>> (p2 &&& 31).toUInt32).toInt32))])) (fun t k => XS.iconst X0.here hx rfl (hb hby d1_3) k) ?_
  refine own_step (B := s₁.setTop (mkF m 5 #[.val (.int p0), .val (.long q1), .second, .val (.int p2)] [(.int (((p0.toUInt32 >>> (p2 &&& 31).toUInt32).toInt32) &&& (1 : Int32)))])) (fun t k => XS.iand X0.here hx rfl (hb hby d1_4) rfl k) ?_
  by_cases hc5 : (((p0.toUInt32 >>> (p2 &&& 31).toUInt32).toInt32) &&& (1 : Int32)) = (0 : Int32)
  · skip
    refine own_step (B := s₁.setTop (mkF m 11 #[.val (.int p0), .val (.long q1), .second, .val (.int p2)] [])) (fun t k => XS.ifYes X0.here hx rfl (pc0 := 5) (pc' := 11) rfl (hb hby d1_5) rfl ((if0 _ _).trans (teq hc5).1) (by decide) (by decide) k) ?_
    refine own_step (B := s₁.setTop (mkF m 12 #[.val (.int p0), .val (.long q1), .second, .val (.int p2)] [(.long q1)])) (fun t k => XS.lloadN X0.here hx rfl (hb hby d1_11) rfl k) ?_
    refine own_step (B := s₁.setTop (mkF m 14 #[.val (.int p0), .val (.long q1), .second, .val (.int p2)] [(.int (8 : Int32)), (.long q1)])) (fun t k => XS.bipush X0.here hx rfl (hb hby d1_12) k) ?_
    refine own_step (B := s₁.setTop (mkF m 15 #[.val (.int p0), .val (.long q1), .second, .val (.int p2)] [(.int p2), (.int (8 : Int32)), (.long q1)])) (fun t k => XS.iloadN X0.here hx rfl (hb hby d1_14) rfl k) ?_
    refine own_step (B := s₁.setTop (mkF m 16 #[.val (.int p0), .val (.long q1), .second, .val (.int p2)] [(.int ((8 : Int32) * p2)), (.long q1)])) (fun t k => XS.imul X0.here hx rfl (hb hby d1_15) rfl k) ?_
    refine own_step (B := s₁.setTop (mkF m 17 #[.val (.int p0), .val (.long q1), .second, .val (.int p2)] [(.long ((q1.toUInt64 >>> (((8 : Int32) * p2) &&& 0x3f).toInt64.toUInt64).toInt64))])) (fun t k => XS.lushr X0.here hx rfl (hb hby d1_16) rfl k) ?_
    refine own_step (B := s₁.setTop (mkF m 18 #[.val (.int p0), .val (.long q1), .second, .val (.int p2)] [(.int (((q1.toUInt64 >>> (((8 : Int32) * p2) &&& 0x3f).toInt64.toUInt64).toInt64).toInt32))])) (fun t k => XS.l2i X0.here hx rfl (hb hby d1_17) rfl k) ?_
    refine own_step (B := s₁.setTop (mkF m 19 #[.val (.int p0), .val (.long q1), .second, .val (.int p2)] [(.int ((((q1.toUInt64 >>> (((8 : Int32) * p2) &&& 0x3f).toInt64.toUInt64).toInt64).toInt32).toInt8.toInt32))])) (fun t k => XS.i2b X0.here hx rfl (hb hby d1_18) rfl k) ?_
    exact own_retN X0 hx hlk (t := .byte) Bd.returns (by simp) (hb hby d1_19) (by decide) (by decide) (by exact ⟨_, rfl, N0, e0⟩)
  · skip
    refine own_step (B := s₁.setTop (mkF m 8 #[.val (.int p0), .val (.long q1), .second, .val (.int p2)] [])) (fun t k => XS.ifNo X0.here hx rfl (hb hby d1_5) rfl ((if0 _ _).trans (feq hc5).1) k) ?_
    refine own_step (B := s₁.setTop (mkF m 10 #[.val (.int p0), .val (.long q1), .second, .val (.int p2)] [(.int (32 : Int32))])) (fun t k => XS.bipush X0.here hx rfl (hb hby d1_8) k) ?_
    exact own_retN X0 hx hlk (t := .byte) Bd.returns (by simp) (hb hby d1_10) (by decide) (by decide) (by exact ⟨_, rfl, N0, e0⟩)
theorem d2_0 : decode method_3_code 0 = .ok (.iload_n 1, 1) := by decide +kernel
theorem d2_1 : decode method_3_code 1 = .ok (.iload_n 2, 1) := by decide +kernel
theorem d2_2 : decode method_3_code 2 = .ok (.if_icmp .lt 15, 3) := by decide +kernel
theorem d2_5 : decode method_3_code 5 = .ok (.aload_n 0, 1) := by decide +kernel
theorem d2_6 : decode method_3_code 6 = .ok (.iload_n 1, 1) := by decide +kernel
theorem d2_7 : decode method_3_code 7 = .ok (.baload, 1) := by decide +kernel
theorem d2_8 : decode method_3_code 8 = .ok (.bipush 32, 2) := by decide +kernel
theorem d2_10 : decode method_3_code 10 = .ok (.if_icmp .ne 7, 3) := by decide +kernel
theorem d2_13 : decode method_3_code 13 = .ok (.iconst 1, 1) := by decide +kernel
theorem d2_14 : decode method_3_code 14 = .ok (.goto 4, 3) := by decide +kernel
theorem d2_17 : decode method_3_code 17 = .ok (.iconst 0, 1) := by decide +kernel
theorem d2_18 : decode method_3_code 18 = .ok (.ireturn, 1) := by decide +kernel
theorem ef_rmh0 (m : MethodId) (x0 : Addr) (x1 : Int32) (x2 : Int32) : entryFrame m #[(.ref x0), (.int x1), (.int x2)] 3 = mkF m 0 #[.val (.ref x0), .val (.int x1), .val (.int x2)] [] := by first | (simp [entryFrame, mkF, argsToLocals, Value.category]; done) | rfl
def QQ_rmh0 (Z : State) (a0' : Addr) (p2 : Int32) (kk : ClassId) (w0 w1 w2 w3 w4 : Int32) (h0 : Heap) (n0 : Nat) (v : Option Value) (h : Heap) (L : List Loc) : Prop := v = some (.int (own_hit w0 0 p2)) ∧ Fr n0 L ∧ h = h0
set_option maxRecDepth 65536 in
set_option maxHeartbeats 40000000 in
theorem rmh0 (l : Launch) (Z : State) (a0 : Array Value) (hw : ∀ d ∈ tables_1, d.before a0 Z = true) (ws : List Jvm.Cond) (a0' : Addr) (p2 : Int32) (kk : ClassId) (w0 w1 w2 w3 w4 : Int32) (h0 : Heap) (n0 : Nat) (Z0 : n0 ≤ h0.size) (V_a0' : Arv Z h0 a0' kk .byte (5 : Int32) [(.int w0), (.int w1), (.int w2), (.int w3), (.int w4)] (.int (0 : Int32))) :
    MetFree l (⟨"com/example/loomwire/loomwire/chat/ChatIndexOfSpacePinLaw", "hit", "([BII)Z"⟩ : MethodName) (head1 (Jvm.Cond.code (⟨"com/example/loomwire/loomwire/chat/ChatIndexOfSpacePinLaw", "hit", "([BII)Z"⟩ : MethodName) method_3_code 3 (some .boolean) :: ws) ({ frames := 0, cells := 0, slots := 0, locals := 0 } : Room)) (fun a U => a = #[(.ref a0'), (.int (0 : Int32)), (.int p2)] ∧ Z.Warmed39 U.vm ∧ U.heap = h0) (fun _ _ _ _ _ => True) (fun _ U o U' => ∃ v L, o = .returned v ∧ (QQ_rmh0 Z a0' p2 kk w0 w1 w2 w3 w4 h0 n0) v U'.heap L ∧ FrameEnd U o U' L ({ frames := 0, cells := 0, slots := 0, locals := 0 } : Room).cells ({ frames := 0, cells := 0, slots := 0, locals := 0 } : Room).slots) := by
  refine MetFree.of_bodySF (plainFor_of_name pn_com_example_loomwire_loomwire_chat_ChatIndexOfSpacePinLaw) hisR ?_
  intro p e s m args below meth c s₁ Bd hml0 hP hK
  obtain ⟨rfl, hZ, hh⟩ := hP
  have hx := Bd.exec
  have hby := Bd.bytes
  have hlk : meth.locks = false := BodyLoose.notSynchronized Bd
  have hml : c.maxLocals = 3 := hml0
  have hown : s.vm.findClass "com/example/loomwire/loomwire/chat/ChatIndexOfSpacePinLaw" = some m.cls := findClass_of_methodNamed Bd.named
  have hnm := (name_of_methodNamed Bd.named Bd.method).1
  have X0 : Stand p l e ({ frames := 0, cells := 0, slots := 0, locals := 0 } : Room) s m #[(.ref a0'), (.int (0 : Int32)), (.int p2)] below meth c s₁ [] 0 0 := Stand.of_body Bd
  have e0 : s₁.heap = h0 := by rw [← hh, Bd.state]; rfl
  have N0 := Fr.nil n0
  show own_G p.tables e below s (QQ_rmh0 Z a0' p2 kk w0 w1 w2 w3 w4 h0 n0) ({ frames := 0, cells := 0, slots := 0, locals := 0 } : Room).cells ({ frames := 0, cells := 0, slots := 0, locals := 0 } : Room).slots (s₁.setTop (entryFrame m #[(.ref a0'), (.int (0 : Int32)), (.int p2)] 3))
  refine own_step (B := s₁.setTop (mkF m 0 #[.val (.ref a0'), .val (.int (0 : Int32)), .val (.int p2)] [])) (fun t k => castTop (ef_rmh0 m a0' (0 : Int32) p2) k) ?_
  refine own_step (B := s₁.setTop (mkF m 1 #[.val (.ref a0'), .val (.int (0 : Int32)), .val (.int p2)] [(.int (0 : Int32))])) (fun t k => XS.iloadN X0.here hx rfl (hb hby d2_0) rfl k) ?_
  refine own_step (B := s₁.setTop (mkF m 2 #[.val (.ref a0'), .val (.int (0 : Int32)), .val (.int p2)] [(.int p2), (.int (0 : Int32))])) (fun t k => XS.iloadN X0.here hx rfl (hb hby d2_1) rfl k) ?_
  by_cases hc2 : (0 : Int32) < p2
  · skip
    refine own_step (B := s₁.setTop (mkF m 17 #[.val (.ref a0'), .val (.int (0 : Int32)), .val (.int p2)] [])) (fun t k => XS.icmpYes X0.here hx rfl (pc0 := 2) (pc' := 17) rfl (hb hby d2_2) rfl (tlt hc2).1 (by decide) (by decide) k) ?_
    refine own_step (B := s₁.setTop (mkF m 18 #[.val (.ref a0'), .val (.int (0 : Int32)), .val (.int p2)] [(.int (0 : Int32))])) (fun t k => XS.iconst X0.here hx rfl (hb hby d2_17) k) ?_
    exact own_retN X0 hx hlk (t := .boolean) Bd.returns (by simp) (hb hby d2_18) (by decide) (by decide) (by have hh : own_hit w0 0 p2 = (0 : Int32) := (by unfold own_hit; simp only [if_pos hc2]); exact ⟨by rw [hh]; rfl, N0, e0⟩)
  · skip
    refine own_step (B := s₁.setTop (mkF m 5 #[.val (.ref a0'), .val (.int (0 : Int32)), .val (.int p2)] [])) (fun t k => XS.icmpNo X0.here hx rfl (hb hby d2_2) rfl (flt hc2).1 k) ?_
    refine own_step (B := s₁.setTop (mkF m 6 #[.val (.ref a0'), .val (.int (0 : Int32)), .val (.int p2)] [(.ref a0')])) (fun t k => XS.aloadN X0.here hx rfl (hb hby d2_5) rfl rfl k) ?_
    refine own_step (B := s₁.setTop (mkF m 7 #[.val (.ref a0'), .val (.int (0 : Int32)), .val (.int p2)] [(.int (0 : Int32)), (.ref a0')])) (fun t k => XS.iloadN X0.here hx rfl (hb hby d2_6) rfl k) ?_
    have Vo_1 := V_a0'
    obtain ⟨cl_1, Ar_1, q_1, S_1, M_1, H_1, G_1⟩ := Vo_1
    refine own_step (B := s₁.setTop (mkF m 8 #[.val (.ref a0'), .val (.int (0 : Int32)), .val (.int p2)] [(.int w0)])) (fun t k => X0.baloadBytes hx (j := (0 : Int32)) (v := (.int w0)) (by rw [e0]; exact Ar_1.1) (State.isArrayOf_alike hZ.alike Ar_1.2.1) Ar_1.2.2 (inb_of S_1 ⟨by decide, by decide⟩) (Has.at H_1 (inb_of S_1 ⟨by decide, by decide⟩) rfl) (g := (mkF m 7 #[.val (.ref a0'), .val (.int (0 : Int32)), .val (.int p2)] [(.int (0 : Int32)), (.ref a0')])) rfl rfl (hb hby d2_7) t k) ?_
    refine own_step (B := s₁.setTop (mkF m 10 #[.val (.ref a0'), .val (.int (0 : Int32)), .val (.int p2)] [(.int (32 : Int32)), (.int w0)])) (fun t k => XS.bipush X0.here hx rfl (hb hby d2_8) k) ?_
    by_cases hc10 : w0 = (32 : Int32)
    · skip
      refine own_step (B := s₁.setTop (mkF m 13 #[.val (.ref a0'), .val (.int (0 : Int32)), .val (.int p2)] [])) (fun t k => XS.icmpNo X0.here hx rfl (hb hby d2_10) rfl (teq hc10).2 k) ?_
      refine own_step (B := s₁.setTop (mkF m 14 #[.val (.ref a0'), .val (.int (0 : Int32)), .val (.int p2)] [(.int (1 : Int32))])) (fun t k => XS.iconst X0.here hx rfl (hb hby d2_13) k) ?_
      refine own_step (B := s₁.setTop (mkF m 18 #[.val (.ref a0'), .val (.int (0 : Int32)), .val (.int p2)] [(.int (1 : Int32))])) (fun t k => XS.goto X0.here hx rfl (pc0 := 14) (pc' := 18) rfl (hb hby d2_14) (by decide) (by decide) k) ?_
      exact own_retN X0 hx hlk (t := .boolean) Bd.returns (by simp) (hb hby d2_18) (by decide) (by decide) (by have hh : own_hit w0 0 p2 = (1 : Int32) := (by unfold own_hit; simp only [if_neg hc2, if_pos hc10]); exact ⟨by rw [hh]; rfl, N0, e0⟩)
    · skip
      refine own_step (B := s₁.setTop (mkF m 17 #[.val (.ref a0'), .val (.int (0 : Int32)), .val (.int p2)] [])) (fun t k => XS.icmpYes X0.here hx rfl (pc0 := 10) (pc' := 17) rfl (hb hby d2_10) rfl (feq hc10).2 (by decide) (by decide) k) ?_
      refine own_step (B := s₁.setTop (mkF m 18 #[.val (.ref a0'), .val (.int (0 : Int32)), .val (.int p2)] [(.int (0 : Int32))])) (fun t k => XS.iconst X0.here hx rfl (hb hby d2_17) k) ?_
      exact own_retN X0 hx hlk (t := .boolean) Bd.returns (by simp) (hb hby d2_18) (by decide) (by decide) (by have hh : own_hit w0 0 p2 = (0 : Int32) := (by unfold own_hit; simp only [if_neg hc2, if_neg hc10]); exact ⟨by rw [hh]; rfl, N0, e0⟩)
theorem ef_rmh1 (m : MethodId) (x0 : Addr) (x1 : Int32) (x2 : Int32) : entryFrame m #[(.ref x0), (.int x1), (.int x2)] 3 = mkF m 0 #[.val (.ref x0), .val (.int x1), .val (.int x2)] [] := by first | (simp [entryFrame, mkF, argsToLocals, Value.category]; done) | rfl
def QQ_rmh1 (Z : State) (a0' : Addr) (p2 : Int32) (kk : ClassId) (w0 w1 w2 w3 w4 : Int32) (h0 : Heap) (n0 : Nat) (v : Option Value) (h : Heap) (L : List Loc) : Prop := v = some (.int (own_hit w1 1 p2)) ∧ Fr n0 L ∧ h = h0
set_option maxRecDepth 65536 in
set_option maxHeartbeats 40000000 in
theorem rmh1 (l : Launch) (Z : State) (a0 : Array Value) (hw : ∀ d ∈ tables_1, d.before a0 Z = true) (ws : List Jvm.Cond) (a0' : Addr) (p2 : Int32) (kk : ClassId) (w0 w1 w2 w3 w4 : Int32) (h0 : Heap) (n0 : Nat) (Z0 : n0 ≤ h0.size) (V_a0' : Arv Z h0 a0' kk .byte (5 : Int32) [(.int w0), (.int w1), (.int w2), (.int w3), (.int w4)] (.int (0 : Int32))) :
    MetFree l (⟨"com/example/loomwire/loomwire/chat/ChatIndexOfSpacePinLaw", "hit", "([BII)Z"⟩ : MethodName) (head1 (Jvm.Cond.code (⟨"com/example/loomwire/loomwire/chat/ChatIndexOfSpacePinLaw", "hit", "([BII)Z"⟩ : MethodName) method_3_code 3 (some .boolean) :: ws) ({ frames := 0, cells := 0, slots := 0, locals := 0 } : Room)) (fun a U => a = #[(.ref a0'), (.int (1 : Int32)), (.int p2)] ∧ Z.Warmed39 U.vm ∧ U.heap = h0) (fun _ _ _ _ _ => True) (fun _ U o U' => ∃ v L, o = .returned v ∧ (QQ_rmh1 Z a0' p2 kk w0 w1 w2 w3 w4 h0 n0) v U'.heap L ∧ FrameEnd U o U' L ({ frames := 0, cells := 0, slots := 0, locals := 0 } : Room).cells ({ frames := 0, cells := 0, slots := 0, locals := 0 } : Room).slots) := by
  refine MetFree.of_bodySF (plainFor_of_name pn_com_example_loomwire_loomwire_chat_ChatIndexOfSpacePinLaw) hisR ?_
  intro p e s m args below meth c s₁ Bd hml0 hP hK
  obtain ⟨rfl, hZ, hh⟩ := hP
  have hx := Bd.exec
  have hby := Bd.bytes
  have hlk : meth.locks = false := BodyLoose.notSynchronized Bd
  have hml : c.maxLocals = 3 := hml0
  have hown : s.vm.findClass "com/example/loomwire/loomwire/chat/ChatIndexOfSpacePinLaw" = some m.cls := findClass_of_methodNamed Bd.named
  have hnm := (name_of_methodNamed Bd.named Bd.method).1
  have X0 : Stand p l e ({ frames := 0, cells := 0, slots := 0, locals := 0 } : Room) s m #[(.ref a0'), (.int (1 : Int32)), (.int p2)] below meth c s₁ [] 0 0 := Stand.of_body Bd
  have e0 : s₁.heap = h0 := by rw [← hh, Bd.state]; rfl
  have N0 := Fr.nil n0
  show own_G p.tables e below s (QQ_rmh1 Z a0' p2 kk w0 w1 w2 w3 w4 h0 n0) ({ frames := 0, cells := 0, slots := 0, locals := 0 } : Room).cells ({ frames := 0, cells := 0, slots := 0, locals := 0 } : Room).slots (s₁.setTop (entryFrame m #[(.ref a0'), (.int (1 : Int32)), (.int p2)] 3))
  refine own_step (B := s₁.setTop (mkF m 0 #[.val (.ref a0'), .val (.int (1 : Int32)), .val (.int p2)] [])) (fun t k => castTop (ef_rmh1 m a0' (1 : Int32) p2) k) ?_
  refine own_step (B := s₁.setTop (mkF m 1 #[.val (.ref a0'), .val (.int (1 : Int32)), .val (.int p2)] [(.int (1 : Int32))])) (fun t k => XS.iloadN X0.here hx rfl (hb hby d2_0) rfl k) ?_
  refine own_step (B := s₁.setTop (mkF m 2 #[.val (.ref a0'), .val (.int (1 : Int32)), .val (.int p2)] [(.int p2), (.int (1 : Int32))])) (fun t k => XS.iloadN X0.here hx rfl (hb hby d2_1) rfl k) ?_
  by_cases hc2 : (1 : Int32) < p2
  · skip
    refine own_step (B := s₁.setTop (mkF m 17 #[.val (.ref a0'), .val (.int (1 : Int32)), .val (.int p2)] [])) (fun t k => XS.icmpYes X0.here hx rfl (pc0 := 2) (pc' := 17) rfl (hb hby d2_2) rfl (tlt hc2).1 (by decide) (by decide) k) ?_
    refine own_step (B := s₁.setTop (mkF m 18 #[.val (.ref a0'), .val (.int (1 : Int32)), .val (.int p2)] [(.int (0 : Int32))])) (fun t k => XS.iconst X0.here hx rfl (hb hby d2_17) k) ?_
    exact own_retN X0 hx hlk (t := .boolean) Bd.returns (by simp) (hb hby d2_18) (by decide) (by decide) (by have hh : own_hit w1 1 p2 = (0 : Int32) := (by unfold own_hit; simp only [if_pos hc2]); exact ⟨by rw [hh]; rfl, N0, e0⟩)
  · skip
    refine own_step (B := s₁.setTop (mkF m 5 #[.val (.ref a0'), .val (.int (1 : Int32)), .val (.int p2)] [])) (fun t k => XS.icmpNo X0.here hx rfl (hb hby d2_2) rfl (flt hc2).1 k) ?_
    refine own_step (B := s₁.setTop (mkF m 6 #[.val (.ref a0'), .val (.int (1 : Int32)), .val (.int p2)] [(.ref a0')])) (fun t k => XS.aloadN X0.here hx rfl (hb hby d2_5) rfl rfl k) ?_
    refine own_step (B := s₁.setTop (mkF m 7 #[.val (.ref a0'), .val (.int (1 : Int32)), .val (.int p2)] [(.int (1 : Int32)), (.ref a0')])) (fun t k => XS.iloadN X0.here hx rfl (hb hby d2_6) rfl k) ?_
    have Vo_1 := V_a0'
    obtain ⟨cl_1, Ar_1, q_1, S_1, M_1, H_1, G_1⟩ := Vo_1
    refine own_step (B := s₁.setTop (mkF m 8 #[.val (.ref a0'), .val (.int (1 : Int32)), .val (.int p2)] [(.int w1)])) (fun t k => X0.baloadBytes hx (j := (1 : Int32)) (v := (.int w1)) (by rw [e0]; exact Ar_1.1) (State.isArrayOf_alike hZ.alike Ar_1.2.1) Ar_1.2.2 (inb_of S_1 ⟨by decide, by decide⟩) (Has.at H_1 (inb_of S_1 ⟨by decide, by decide⟩) rfl) (g := (mkF m 7 #[.val (.ref a0'), .val (.int (1 : Int32)), .val (.int p2)] [(.int (1 : Int32)), (.ref a0')])) rfl rfl (hb hby d2_7) t k) ?_
    refine own_step (B := s₁.setTop (mkF m 10 #[.val (.ref a0'), .val (.int (1 : Int32)), .val (.int p2)] [(.int (32 : Int32)), (.int w1)])) (fun t k => XS.bipush X0.here hx rfl (hb hby d2_8) k) ?_
    by_cases hc10 : w1 = (32 : Int32)
    · skip
      refine own_step (B := s₁.setTop (mkF m 13 #[.val (.ref a0'), .val (.int (1 : Int32)), .val (.int p2)] [])) (fun t k => XS.icmpNo X0.here hx rfl (hb hby d2_10) rfl (teq hc10).2 k) ?_
      refine own_step (B := s₁.setTop (mkF m 14 #[.val (.ref a0'), .val (.int (1 : Int32)), .val (.int p2)] [(.int (1 : Int32))])) (fun t k => XS.iconst X0.here hx rfl (hb hby d2_13) k) ?_
      refine own_step (B := s₁.setTop (mkF m 18 #[.val (.ref a0'), .val (.int (1 : Int32)), .val (.int p2)] [(.int (1 : Int32))])) (fun t k => XS.goto X0.here hx rfl (pc0 := 14) (pc' := 18) rfl (hb hby d2_14) (by decide) (by decide) k) ?_
      exact own_retN X0 hx hlk (t := .boolean) Bd.returns (by simp) (hb hby d2_18) (by decide) (by decide) (by have hh : own_hit w1 1 p2 = (1 : Int32) := (by unfold own_hit; simp only [if_neg hc2, if_pos hc10]); exact ⟨by rw [hh]; rfl, N0, e0⟩)
    · skip
      refine own_step (B := s₁.setTop (mkF m 17 #[.val (.ref a0'), .val (.int (1 : Int32)), .val (.int p2)] [])) (fun t k => XS.icmpYes X0.here hx rfl (pc0 := 10) (pc' := 17) rfl (hb hby d2_10) rfl (feq hc10).2 (by decide) (by decide) k) ?_
      refine own_step (B := s₁.setTop (mkF m 18 #[.val (.ref a0'), .val (.int (1 : Int32)), .val (.int p2)] [(.int (0 : Int32))])) (fun t k => XS.iconst X0.here hx rfl (hb hby d2_17) k) ?_
      exact own_retN X0 hx hlk (t := .boolean) Bd.returns (by simp) (hb hby d2_18) (by decide) (by decide) (by have hh : own_hit w1 1 p2 = (0 : Int32) := (by unfold own_hit; simp only [if_neg hc2, if_neg hc10]); exact ⟨by rw [hh]; rfl, N0, e0⟩)
theorem ef_rmh2 (m : MethodId) (x0 : Addr) (x1 : Int32) (x2 : Int32) : entryFrame m #[(.ref x0), (.int x1), (.int x2)] 3 = mkF m 0 #[.val (.ref x0), .val (.int x1), .val (.int x2)] [] := by first | (simp [entryFrame, mkF, argsToLocals, Value.category]; done) | rfl
def QQ_rmh2 (Z : State) (a0' : Addr) (p2 : Int32) (kk : ClassId) (w0 w1 w2 w3 w4 : Int32) (h0 : Heap) (n0 : Nat) (v : Option Value) (h : Heap) (L : List Loc) : Prop := v = some (.int (own_hit w2 2 p2)) ∧ Fr n0 L ∧ h = h0
set_option maxRecDepth 65536 in
set_option maxHeartbeats 40000000 in
theorem rmh2 (l : Launch) (Z : State) (a0 : Array Value) (hw : ∀ d ∈ tables_1, d.before a0 Z = true) (ws : List Jvm.Cond) (a0' : Addr) (p2 : Int32) (kk : ClassId) (w0 w1 w2 w3 w4 : Int32) (h0 : Heap) (n0 : Nat) (Z0 : n0 ≤ h0.size) (V_a0' : Arv Z h0 a0' kk .byte (5 : Int32) [(.int w0), (.int w1), (.int w2), (.int w3), (.int w4)] (.int (0 : Int32))) :
    MetFree l (⟨"com/example/loomwire/loomwire/chat/ChatIndexOfSpacePinLaw", "hit", "([BII)Z"⟩ : MethodName) (head1 (Jvm.Cond.code (⟨"com/example/loomwire/loomwire/chat/ChatIndexOfSpacePinLaw", "hit", "([BII)Z"⟩ : MethodName) method_3_code 3 (some .boolean) :: ws) ({ frames := 0, cells := 0, slots := 0, locals := 0 } : Room)) (fun a U => a = #[(.ref a0'), (.int (2 : Int32)), (.int p2)] ∧ Z.Warmed39 U.vm ∧ U.heap = h0) (fun _ _ _ _ _ => True) (fun _ U o U' => ∃ v L, o = .returned v ∧ (QQ_rmh2 Z a0' p2 kk w0 w1 w2 w3 w4 h0 n0) v U'.heap L ∧ FrameEnd U o U' L ({ frames := 0, cells := 0, slots := 0, locals := 0 } : Room).cells ({ frames := 0, cells := 0, slots := 0, locals := 0 } : Room).slots) := by
  refine MetFree.of_bodySF (plainFor_of_name pn_com_example_loomwire_loomwire_chat_ChatIndexOfSpacePinLaw) hisR ?_
  intro p e s m args below meth c s₁ Bd hml0 hP hK
  obtain ⟨rfl, hZ, hh⟩ := hP
  have hx := Bd.exec
  have hby := Bd.bytes
  have hlk : meth.locks = false := BodyLoose.notSynchronized Bd
  have hml : c.maxLocals = 3 := hml0
  have hown : s.vm.findClass "com/example/loomwire/loomwire/chat/ChatIndexOfSpacePinLaw" = some m.cls := findClass_of_methodNamed Bd.named
  have hnm := (name_of_methodNamed Bd.named Bd.method).1
  have X0 : Stand p l e ({ frames := 0, cells := 0, slots := 0, locals := 0 } : Room) s m #[(.ref a0'), (.int (2 : Int32)), (.int p2)] below meth c s₁ [] 0 0 := Stand.of_body Bd
  have e0 : s₁.heap = h0 := by rw [← hh, Bd.state]; rfl
  have N0 := Fr.nil n0
  show own_G p.tables e below s (QQ_rmh2 Z a0' p2 kk w0 w1 w2 w3 w4 h0 n0) ({ frames := 0, cells := 0, slots := 0, locals := 0 } : Room).cells ({ frames := 0, cells := 0, slots := 0, locals := 0 } : Room).slots (s₁.setTop (entryFrame m #[(.ref a0'), (.int (2 : Int32)), (.int p2)] 3))
  refine own_step (B := s₁.setTop (mkF m 0 #[.val (.ref a0'), .val (.int (2 : Int32)), .val (.int p2)] [])) (fun t k => castTop (ef_rmh2 m a0' (2 : Int32) p2) k) ?_
  refine own_step (B := s₁.setTop (mkF m 1 #[.val (.ref a0'), .val (.int (2 : Int32)), .val (.int p2)] [(.int (2 : Int32))])) (fun t k => XS.iloadN X0.here hx rfl (hb hby d2_0) rfl k) ?_
  refine own_step (B := s₁.setTop (mkF m 2 #[.val (.ref a0'), .val (.int (2 : Int32)), .val (.int p2)] [(.int p2), (.int (2 : Int32))])) (fun t k => XS.iloadN X0.here hx rfl (hb hby d2_1) rfl k) ?_
  by_cases hc2 : (2 : Int32) < p2
  · skip
    refine own_step (B := s₁.setTop (mkF m 17 #[.val (.ref a0'), .val (.int (2 : Int32)), .val (.int p2)] [])) (fun t k => XS.icmpYes X0.here hx rfl (pc0 := 2) (pc' := 17) rfl (hb hby d2_2) rfl (tlt hc2).1 (by decide) (by decide) k) ?_
    refine own_step (B := s₁.setTop (mkF m 18 #[.val (.ref a0'), .val (.int (2 : Int32)), .val (.int p2)] [(.int (0 : Int32))])) (fun t k => XS.iconst X0.here hx rfl (hb hby d2_17) k) ?_
    exact own_retN X0 hx hlk (t := .boolean) Bd.returns (by simp) (hb hby d2_18) (by decide) (by decide) (by have hh : own_hit w2 2 p2 = (0 : Int32) := (by unfold own_hit; simp only [if_pos hc2]); exact ⟨by rw [hh]; rfl, N0, e0⟩)
  · skip
    refine own_step (B := s₁.setTop (mkF m 5 #[.val (.ref a0'), .val (.int (2 : Int32)), .val (.int p2)] [])) (fun t k => XS.icmpNo X0.here hx rfl (hb hby d2_2) rfl (flt hc2).1 k) ?_
    refine own_step (B := s₁.setTop (mkF m 6 #[.val (.ref a0'), .val (.int (2 : Int32)), .val (.int p2)] [(.ref a0')])) (fun t k => XS.aloadN X0.here hx rfl (hb hby d2_5) rfl rfl k) ?_
    refine own_step (B := s₁.setTop (mkF m 7 #[.val (.ref a0'), .val (.int (2 : Int32)), .val (.int p2)] [(.int (2 : Int32)), (.ref a0')])) (fun t k => XS.iloadN X0.here hx rfl (hb hby d2_6) rfl k) ?_
    have Vo_1 := V_a0'
    obtain ⟨cl_1, Ar_1, q_1, S_1, M_1, H_1, G_1⟩ := Vo_1
    refine own_step (B := s₁.setTop (mkF m 8 #[.val (.ref a0'), .val (.int (2 : Int32)), .val (.int p2)] [(.int w2)])) (fun t k => X0.baloadBytes hx (j := (2 : Int32)) (v := (.int w2)) (by rw [e0]; exact Ar_1.1) (State.isArrayOf_alike hZ.alike Ar_1.2.1) Ar_1.2.2 (inb_of S_1 ⟨by decide, by decide⟩) (Has.at H_1 (inb_of S_1 ⟨by decide, by decide⟩) rfl) (g := (mkF m 7 #[.val (.ref a0'), .val (.int (2 : Int32)), .val (.int p2)] [(.int (2 : Int32)), (.ref a0')])) rfl rfl (hb hby d2_7) t k) ?_
    refine own_step (B := s₁.setTop (mkF m 10 #[.val (.ref a0'), .val (.int (2 : Int32)), .val (.int p2)] [(.int (32 : Int32)), (.int w2)])) (fun t k => XS.bipush X0.here hx rfl (hb hby d2_8) k) ?_
    by_cases hc10 : w2 = (32 : Int32)
    · skip
      refine own_step (B := s₁.setTop (mkF m 13 #[.val (.ref a0'), .val (.int (2 : Int32)), .val (.int p2)] [])) (fun t k => XS.icmpNo X0.here hx rfl (hb hby d2_10) rfl (teq hc10).2 k) ?_
      refine own_step (B := s₁.setTop (mkF m 14 #[.val (.ref a0'), .val (.int (2 : Int32)), .val (.int p2)] [(.int (1 : Int32))])) (fun t k => XS.iconst X0.here hx rfl (hb hby d2_13) k) ?_
      refine own_step (B := s₁.setTop (mkF m 18 #[.val (.ref a0'), .val (.int (2 : Int32)), .val (.int p2)] [(.int (1 : Int32))])) (fun t k => XS.goto X0.here hx rfl (pc0 := 14) (pc' := 18) rfl (hb hby d2_14) (by decide) (by decide) k) ?_
      exact own_retN X0 hx hlk (t := .boolean) Bd.returns (by simp) (hb hby d2_18) (by decide) (by decide) (by have hh : own_hit w2 2 p2 = (1 : Int32) := (by unfold own_hit; simp only [if_neg hc2, if_pos hc10]); exact ⟨by rw [hh]; rfl, N0, e0⟩)
    · skip
      refine own_step (B := s₁.setTop (mkF m 17 #[.val (.ref a0'), .val (.int (2 : Int32)), .val (.int p2)] [])) (fun t k => XS.icmpYes X0.here hx rfl (pc0 := 10) (pc' := 17) rfl (hb hby d2_10) rfl (feq hc10).2 (by decide) (by decide) k) ?_
      refine own_step (B := s₁.setTop (mkF m 18 #[.val (.ref a0'), .val (.int (2 : Int32)), .val (.int p2)] [(.int (0 : Int32))])) (fun t k => XS.iconst X0.here hx rfl (hb hby d2_17) k) ?_
      exact own_retN X0 hx hlk (t := .boolean) Bd.returns (by simp) (hb hby d2_18) (by decide) (by decide) (by have hh : own_hit w2 2 p2 = (0 : Int32) := (by unfold own_hit; simp only [if_neg hc2, if_neg hc10]); exact ⟨by rw [hh]; rfl, N0, e0⟩)
theorem ef_rmh3 (m : MethodId) (x0 : Addr) (x1 : Int32) (x2 : Int32) : entryFrame m #[(.ref x0), (.int x1), (.int x2)] 3 = mkF m 0 #[.val (.ref x0), .val (.int x1), .val (.int x2)] [] := by first | (simp [entryFrame, mkF, argsToLocals, Value.category]; done) | rfl
def QQ_rmh3 (Z : State) (a0' : Addr) (p2 : Int32) (kk : ClassId) (w0 w1 w2 w3 w4 : Int32) (h0 : Heap) (n0 : Nat) (v : Option Value) (h : Heap) (L : List Loc) : Prop := v = some (.int (own_hit w3 3 p2)) ∧ Fr n0 L ∧ h = h0
set_option maxRecDepth 65536 in
set_option maxHeartbeats 40000000 in
theorem rmh3 (l : Launch) (Z : State) (a0 : Array Value) (hw : ∀ d ∈ tables_1, d.before a0 Z = true) (ws : List Jvm.Cond) (a0' : Addr) (p2 : Int32) (kk : ClassId) (w0 w1 w2 w3 w4 : Int32) (h0 : Heap) (n0 : Nat) (Z0 : n0 ≤ h0.size) (V_a0' : Arv Z h0 a0' kk .byte (5 : Int32) [(.int w0), (.int w1), (.int w2), (.int w3), (.int w4)] (.int (0 : Int32))) :
    MetFree l (⟨"com/example/loomwire/loomwire/chat/ChatIndexOfSpacePinLaw", "hit", "([BII)Z"⟩ : MethodName) (head1 (Jvm.Cond.code (⟨"com/example/loomwire/loomwire/chat/ChatIndexOfSpacePinLaw", "hit", "([BII)Z"⟩ : MethodName) method_3_code 3 (some .boolean) :: ws) ({ frames := 0, cells := 0, slots := 0, locals := 0 } : Room)) (fun a U => a = #[(.ref a0'), (.int (3 : Int32)), (.int p2)] ∧ Z.Warmed39 U.vm ∧ U.heap = h0) (fun _ _ _ _ _ => True) (fun _ U o U' => ∃ v L, o = .returned v ∧ (QQ_rmh3 Z a0' p2 kk w0 w1 w2 w3 w4 h0 n0) v U'.heap L ∧ FrameEnd U o U' L ({ frames := 0, cells := 0, slots := 0, locals := 0 } : Room).cells ({ frames := 0, cells := 0, slots := 0, locals := 0 } : Room).slots) := by
  refine MetFree.of_bodySF (plainFor_of_name pn_com_example_loomwire_loomwire_chat_ChatIndexOfSpacePinLaw) hisR ?_
  intro p e s m args below meth c s₁ Bd hml0 hP hK
  obtain ⟨rfl, hZ, hh⟩ := hP
  have hx := Bd.exec
  have hby := Bd.bytes
  have hlk : meth.locks = false := BodyLoose.notSynchronized Bd
  have hml : c.maxLocals = 3 := hml0
  have hown : s.vm.findClass "com/example/loomwire/loomwire/chat/ChatIndexOfSpacePinLaw" = some m.cls := findClass_of_methodNamed Bd.named
  have hnm := (name_of_methodNamed Bd.named Bd.method).1
  have X0 : Stand p l e ({ frames := 0, cells := 0, slots := 0, locals := 0 } : Room) s m #[(.ref a0'), (.int (3 : Int32)), (.int p2)] below meth c s₁ [] 0 0 := Stand.of_body Bd
  have e0 : s₁.heap = h0 := by rw [← hh, Bd.state]; rfl
  have N0 := Fr.nil n0
  show own_G p.tables e below s (QQ_rmh3 Z a0' p2 kk w0 w1 w2 w3 w4 h0 n0) ({ frames := 0, cells := 0, slots := 0, locals := 0 } : Room).cells ({ frames := 0, cells := 0, slots := 0, locals := 0 } : Room).slots (s₁.setTop (entryFrame m #[(.ref a0'), (.int (3 : Int32)), (.int p2)] 3))
  refine own_step (B := s₁.setTop (mkF m 0 #[.val (.ref a0'), .val (.int (3 : Int32)), .val (.int p2)] [])) (fun t k => castTop (ef_rmh3 m a0' (3 : Int32) p2) k) ?_
  refine own_step (B := s₁.setTop (mkF m 1 #[.val (.ref a0'), .val (.int (3 : Int32)), .val (.int p2)] [(.int (3 : Int32))])) (fun t k => XS.iloadN X0.here hx rfl (hb hby d2_0) rfl k) ?_
  refine own_step (B := s₁.setTop (mkF m 2 #[.val (.ref a0'), .val (.int (3 : Int32)), .val (.int p2)] [(.int p2), (.int (3 : Int32))])) (fun t k => XS.iloadN X0.here hx rfl (hb hby d2_1) rfl k) ?_
  by_cases hc2 : (3 : Int32) < p2
  · skip
    refine own_step (B := s₁.setTop (mkF m 17 #[.val (.ref a0'), .val (.int (3 : Int32)), .val (.int p2)] [])) (fun t k => XS.icmpYes X0.here hx rfl (pc0 := 2) (pc' := 17) rfl (hb hby d2_2) rfl (tlt hc2).1 (by decide) (by decide) k) ?_
    refine own_step (B := s₁.setTop (mkF m 18 #[.val (.ref a0'), .val (.int (3 : Int32)), .val (.int p2)] [(.int (0 : Int32))])) (fun t k => XS.iconst X0.here hx rfl (hb hby d2_17) k) ?_
    exact own_retN X0 hx hlk (t := .boolean) Bd.returns (by simp) (hb hby d2_18) (by decide) (by decide) (by have hh : own_hit w3 3 p2 = (0 : Int32) := (by unfold own_hit; simp only [if_pos hc2]); exact ⟨by rw [hh]; rfl, N0, e0⟩)
  · skip
    refine own_step (B := s₁.setTop (mkF m 5 #[.val (.ref a0'), .val (.int (3 : Int32)), .val (.int p2)] [])) (fun t k => XS.icmpNo X0.here hx rfl (hb hby d2_2) rfl (flt hc2).1 k) ?_
    refine own_step (B := s₁.setTop (mkF m 6 #[.val (.ref a0'), .val (.int (3 : Int32)), .val (.int p2)] [(.ref a0')])) (fun t k => XS.aloadN X0.here hx rfl (hb hby d2_5) rfl rfl k) ?_
    refine own_step (B := s₁.setTop (mkF m 7 #[.val (.ref a0'), .val (.int (3 : Int32)), .val (.int p2)] [(.int (3 : Int32)), (.ref a0')])) (fun t k => XS.iloadN X0.here hx rfl (hb hby d2_6) rfl k) ?_
    have Vo_1 := V_a0'
    obtain ⟨cl_1, Ar_1, q_1, S_1, M_1, H_1, G_1⟩ := Vo_1
    refine own_step (B := s₁.setTop (mkF m 8 #[.val (.ref a0'), .val (.int (3 : Int32)), .val (.int p2)] [(.int w3)])) (fun t k => X0.baloadBytes hx (j := (3 : Int32)) (v := (.int w3)) (by rw [e0]; exact Ar_1.1) (State.isArrayOf_alike hZ.alike Ar_1.2.1) Ar_1.2.2 (inb_of S_1 ⟨by decide, by decide⟩) (Has.at H_1 (inb_of S_1 ⟨by decide, by decide⟩) rfl) (g := (mkF m 7 #[.val (.ref a0'), .val (.int (3 : Int32)), .val (.int p2)] [(.int (3 : Int32)), (.ref a0')])) rfl rfl (hb hby d2_7) t k) ?_
    refine own_step (B := s₁.setTop (mkF m 10 #[.val (.ref a0'), .val (.int (3 : Int32)), .val (.int p2)] [(.int (32 : Int32)), (.int w3)])) (fun t k => XS.bipush X0.here hx rfl (hb hby d2_8) k) ?_
    by_cases hc10 : w3 = (32 : Int32)
    · skip
      refine own_step (B := s₁.setTop (mkF m 13 #[.val (.ref a0'), .val (.int (3 : Int32)), .val (.int p2)] [])) (fun t k => XS.icmpNo X0.here hx rfl (hb hby d2_10) rfl (teq hc10).2 k) ?_
      refine own_step (B := s₁.setTop (mkF m 14 #[.val (.ref a0'), .val (.int (3 : Int32)), .val (.int p2)] [(.int (1 : Int32))])) (fun t k => XS.iconst X0.here hx rfl (hb hby d2_13) k) ?_
      refine own_step (B := s₁.setTop (mkF m 18 #[.val (.ref a0'), .val (.int (3 : Int32)), .val (.int p2)] [(.int (1 : Int32))])) (fun t k => XS.goto X0.here hx rfl (pc0 := 14) (pc' := 18) rfl (hb hby d2_14) (by decide) (by decide) k) ?_
      exact own_retN X0 hx hlk (t := .boolean) Bd.returns (by simp) (hb hby d2_18) (by decide) (by decide) (by have hh : own_hit w3 3 p2 = (1 : Int32) := (by unfold own_hit; simp only [if_neg hc2, if_pos hc10]); exact ⟨by rw [hh]; rfl, N0, e0⟩)
    · skip
      refine own_step (B := s₁.setTop (mkF m 17 #[.val (.ref a0'), .val (.int (3 : Int32)), .val (.int p2)] [])) (fun t k => XS.icmpYes X0.here hx rfl (pc0 := 10) (pc' := 17) rfl (hb hby d2_10) rfl (feq hc10).2 (by decide) (by decide) k) ?_
      refine own_step (B := s₁.setTop (mkF m 18 #[.val (.ref a0'), .val (.int (3 : Int32)), .val (.int p2)] [(.int (0 : Int32))])) (fun t k => XS.iconst X0.here hx rfl (hb hby d2_17) k) ?_
      exact own_retN X0 hx hlk (t := .boolean) Bd.returns (by simp) (hb hby d2_18) (by decide) (by decide) (by have hh : own_hit w3 3 p2 = (0 : Int32) := (by unfold own_hit; simp only [if_neg hc2, if_neg hc10]); exact ⟨by rw [hh]; rfl, N0, e0⟩)
theorem ef_rmh4 (m : MethodId) (x0 : Addr) (x1 : Int32) (x2 : Int32) : entryFrame m #[(.ref x0), (.int x1), (.int x2)] 3 = mkF m 0 #[.val (.ref x0), .val (.int x1), .val (.int x2)] [] := by first | (simp [entryFrame, mkF, argsToLocals, Value.category]; done) | rfl
def QQ_rmh4 (Z : State) (a0' : Addr) (p2 : Int32) (kk : ClassId) (w0 w1 w2 w3 w4 : Int32) (h0 : Heap) (n0 : Nat) (v : Option Value) (h : Heap) (L : List Loc) : Prop := v = some (.int (own_hit w4 4 p2)) ∧ Fr n0 L ∧ h = h0
set_option maxRecDepth 65536 in
set_option maxHeartbeats 40000000 in
theorem rmh4 (l : Launch) (Z : State) (a0 : Array Value) (hw : ∀ d ∈ tables_1, d.before a0 Z = true) (ws : List Jvm.Cond) (a0' : Addr) (p2 : Int32) (kk : ClassId) (w0 w1 w2 w3 w4 : Int32) (h0 : Heap) (n0 : Nat) (Z0 : n0 ≤ h0.size) (V_a0' : Arv Z h0 a0' kk .byte (5 : Int32) [(.int w0), (.int w1), (.int w2), (.int w3), (.int w4)] (.int (0 : Int32))) :
    MetFree l (⟨"com/example/loomwire/loomwire/chat/ChatIndexOfSpacePinLaw", "hit", "([BII)Z"⟩ : MethodName) (head1 (Jvm.Cond.code (⟨"com/example/loomwire/loomwire/chat/ChatIndexOfSpacePinLaw", "hit", "([BII)Z"⟩ : MethodName) method_3_code 3 (some .boolean) :: ws) ({ frames := 0, cells := 0, slots := 0, locals := 0 } : Room)) (fun a U => a = #[(.ref a0'), (.int (4 : Int32)), (.int p2)] ∧ Z.Warmed39 U.vm ∧ U.heap = h0) (fun _ _ _ _ _ => True) (fun _ U o U' => ∃ v L, o = .returned v ∧ (QQ_rmh4 Z a0' p2 kk w0 w1 w2 w3 w4 h0 n0) v U'.heap L ∧ FrameEnd U o U' L ({ frames := 0, cells := 0, slots := 0, locals := 0 } : Room).cells ({ frames := 0, cells := 0, slots := 0, locals := 0 } : Room).slots) := by
  refine MetFree.of_bodySF (plainFor_of_name pn_com_example_loomwire_loomwire_chat_ChatIndexOfSpacePinLaw) hisR ?_
  intro p e s m args below meth c s₁ Bd hml0 hP hK
  obtain ⟨rfl, hZ, hh⟩ := hP
  have hx := Bd.exec
  have hby := Bd.bytes
  have hlk : meth.locks = false := BodyLoose.notSynchronized Bd
  have hml : c.maxLocals = 3 := hml0
  have hown : s.vm.findClass "com/example/loomwire/loomwire/chat/ChatIndexOfSpacePinLaw" = some m.cls := findClass_of_methodNamed Bd.named
  have hnm := (name_of_methodNamed Bd.named Bd.method).1
  have X0 : Stand p l e ({ frames := 0, cells := 0, slots := 0, locals := 0 } : Room) s m #[(.ref a0'), (.int (4 : Int32)), (.int p2)] below meth c s₁ [] 0 0 := Stand.of_body Bd
  have e0 : s₁.heap = h0 := by rw [← hh, Bd.state]; rfl
  have N0 := Fr.nil n0
  show own_G p.tables e below s (QQ_rmh4 Z a0' p2 kk w0 w1 w2 w3 w4 h0 n0) ({ frames := 0, cells := 0, slots := 0, locals := 0 } : Room).cells ({ frames := 0, cells := 0, slots := 0, locals := 0 } : Room).slots (s₁.setTop (entryFrame m #[(.ref a0'), (.int (4 : Int32)), (.int p2)] 3))
  refine own_step (B := s₁.setTop (mkF m 0 #[.val (.ref a0'), .val (.int (4 : Int32)), .val (.int p2)] [])) (fun t k => castTop (ef_rmh4 m a0' (4 : Int32) p2) k) ?_
  refine own_step (B := s₁.setTop (mkF m 1 #[.val (.ref a0'), .val (.int (4 : Int32)), .val (.int p2)] [(.int (4 : Int32))])) (fun t k => XS.iloadN X0.here hx rfl (hb hby d2_0) rfl k) ?_
  refine own_step (B := s₁.setTop (mkF m 2 #[.val (.ref a0'), .val (.int (4 : Int32)), .val (.int p2)] [(.int p2), (.int (4 : Int32))])) (fun t k => XS.iloadN X0.here hx rfl (hb hby d2_1) rfl k) ?_
  by_cases hc2 : (4 : Int32) < p2
  · skip
    refine own_step (B := s₁.setTop (mkF m 17 #[.val (.ref a0'), .val (.int (4 : Int32)), .val (.int p2)] [])) (fun t k => XS.icmpYes X0.here hx rfl (pc0 := 2) (pc' := 17) rfl (hb hby d2_2) rfl (tlt hc2).1 (by decide) (by decide) k) ?_
    refine own_step (B := s₁.setTop (mkF m 18 #[.val (.ref a0'), .val (.int (4 : Int32)), .val (.int p2)] [(.int (0 : Int32))])) (fun t k => XS.iconst X0.here hx rfl (hb hby d2_17) k) ?_
    exact own_retN X0 hx hlk (t := .boolean) Bd.returns (by simp) (hb hby d2_18) (by decide) (by decide) (by have hh : own_hit w4 4 p2 = (0 : Int32) := (by unfold own_hit; simp only [if_pos hc2]); exact ⟨by rw [hh]; rfl, N0, e0⟩)
  · skip
    refine own_step (B := s₁.setTop (mkF m 5 #[.val (.ref a0'), .val (.int (4 : Int32)), .val (.int p2)] [])) (fun t k => XS.icmpNo X0.here hx rfl (hb hby d2_2) rfl (flt hc2).1 k) ?_
    refine own_step (B := s₁.setTop (mkF m 6 #[.val (.ref a0'), .val (.int (4 : Int32)), .val (.int p2)] [(.ref a0')])) (fun t k => XS.aloadN X0.here hx rfl (hb hby d2_5) rfl rfl k) ?_
    refine own_step (B := s₁.setTop (mkF m 7 #[.val (.ref a0'), .val (.int (4 : Int32)), .val (.int p2)] [(.int (4 : Int32)), (.ref a0')])) (fun t k => XS.iloadN X0.here hx rfl (hb hby d2_6) rfl k) ?_
    have Vo_1 := V_a0'
    obtain ⟨cl_1, Ar_1, q_1, S_1, M_1, H_1, G_1⟩ := Vo_1
    refine own_step (B := s₁.setTop (mkF m 8 #[.val (.ref a0'), .val (.int (4 : Int32)), .val (.int p2)] [(.int w4)])) (fun t k => X0.baloadBytes hx (j := (4 : Int32)) (v := (.int w4)) (by rw [e0]; exact Ar_1.1) (State.isArrayOf_alike hZ.alike Ar_1.2.1) Ar_1.2.2 (inb_of S_1 ⟨by decide, by decide⟩) (Has.at H_1 (inb_of S_1 ⟨by decide, by decide⟩) rfl) (g := (mkF m 7 #[.val (.ref a0'), .val (.int (4 : Int32)), .val (.int p2)] [(.int (4 : Int32)), (.ref a0')])) rfl rfl (hb hby d2_7) t k) ?_
    refine own_step (B := s₁.setTop (mkF m 10 #[.val (.ref a0'), .val (.int (4 : Int32)), .val (.int p2)] [(.int (32 : Int32)), (.int w4)])) (fun t k => XS.bipush X0.here hx rfl (hb hby d2_8) k) ?_
    by_cases hc10 : w4 = (32 : Int32)
    · skip
      refine own_step (B := s₁.setTop (mkF m 13 #[.val (.ref a0'), .val (.int (4 : Int32)), .val (.int p2)] [])) (fun t k => XS.icmpNo X0.here hx rfl (hb hby d2_10) rfl (teq hc10).2 k) ?_
      refine own_step (B := s₁.setTop (mkF m 14 #[.val (.ref a0'), .val (.int (4 : Int32)), .val (.int p2)] [(.int (1 : Int32))])) (fun t k => XS.iconst X0.here hx rfl (hb hby d2_13) k) ?_
      refine own_step (B := s₁.setTop (mkF m 18 #[.val (.ref a0'), .val (.int (4 : Int32)), .val (.int p2)] [(.int (1 : Int32))])) (fun t k => XS.goto X0.here hx rfl (pc0 := 14) (pc' := 18) rfl (hb hby d2_14) (by decide) (by decide) k) ?_
      exact own_retN X0 hx hlk (t := .boolean) Bd.returns (by simp) (hb hby d2_18) (by decide) (by decide) (by have hh : own_hit w4 4 p2 = (1 : Int32) := (by unfold own_hit; simp only [if_neg hc2, if_pos hc10]); exact ⟨by rw [hh]; rfl, N0, e0⟩)
    · skip
      refine own_step (B := s₁.setTop (mkF m 17 #[.val (.ref a0'), .val (.int (4 : Int32)), .val (.int p2)] [])) (fun t k => XS.icmpYes X0.here hx rfl (pc0 := 10) (pc' := 17) rfl (hb hby d2_10) rfl (feq hc10).2 (by decide) (by decide) k) ?_
      refine own_step (B := s₁.setTop (mkF m 18 #[.val (.ref a0'), .val (.int (4 : Int32)), .val (.int p2)] [(.int (0 : Int32))])) (fun t k => XS.iconst X0.here hx rfl (hb hby d2_17) k) ?_
      exact own_retN X0 hx hlk (t := .boolean) Bd.returns (by simp) (hb hby d2_18) (by decide) (by decide) (by have hh : own_hit w4 4 p2 = (0 : Int32) := (by unfold own_hit; simp only [if_neg hc2, if_neg hc10]); exact ⟨by rw [hh]; rfl, N0, e0⟩)
theorem d3_0 : decode prog_17_method_14_code 0 = .ok (.iload_n 1, 1) := by decide +kernel
theorem d3_1 : decode prog_17_method_14_code 1 = .ok (.istore_n 2, 1) := by decide +kernel
theorem d3_2 : decode prog_17_method_14_code 2 = .ok (.iload_n 2, 1) := by decide +kernel
theorem d3_3 : decode prog_17_method_14_code 3 = .ok (.aload_n 0, 1) := by decide +kernel
theorem d3_4 : decode prog_17_method_14_code 4 = .ok (.arraylength, 1) := by decide +kernel
theorem d3_5 : decode prog_17_method_14_code 5 = .ok (.if_icmp .ge 19, 3) := by decide +kernel
theorem d3_8 : decode prog_17_method_14_code 8 = .ok (.aload_n 0, 1) := by decide +kernel
theorem d3_9 : decode prog_17_method_14_code 9 = .ok (.iload_n 2, 1) := by decide +kernel
theorem d3_10 : decode prog_17_method_14_code 10 = .ok (.baload, 1) := by decide +kernel
theorem d3_11 : decode prog_17_method_14_code 11 = .ok (.bipush 32, 2) := by decide +kernel
theorem d3_13 : decode prog_17_method_14_code 13 = .ok (.if_icmp .ne 5, 3) := by decide +kernel
theorem d3_16 : decode prog_17_method_14_code 16 = .ok (.iload_n 2, 1) := by decide +kernel
theorem d3_17 : decode prog_17_method_14_code 17 = .ok (.ireturn, 1) := by decide +kernel
theorem d3_18 : decode prog_17_method_14_code 18 = .ok (.iinc 2 1, 3) := by decide +kernel
theorem d3_21 : decode prog_17_method_14_code 21 = .ok (.goto (-19), 3) := by decide +kernel
theorem d3_24 : decode prog_17_method_14_code 24 = .ok (.iconst (-1), 1) := by decide +kernel
theorem d3_25 : decode prog_17_method_14_code 25 = .ok (.ireturn, 1) := by decide +kernel
theorem pn_com_example_loomwire_loomwire_chat_Chat : plainName "com/example/loomwire/loomwire/chat/Chat" = true := by first | (simp [plainName, overriddenIn]; done) | decide +kernel
theorem ef_rm3 (m : MethodId) (x0 : Addr) (x1 : Int32) : entryFrame m #[(.ref x0), (.int x1)] 3 = mkF m 0 #[.val (.ref x0), .val (.int x1), .unset] [] := by first | (simp [entryFrame, mkF, argsToLocals, Value.category]; done) | rfl
def QQ_rm3 (Z : State) (a0' : Addr) (p1 : Int32) (kk : ClassId) (w0 w1 w2 w3 w4 : Int32) (h0 : Heap) (n0 : Nat) (v : Option Value) (h : Heap) (L : List Loc) : Prop := v = some (.int (own_want w0 w1 w2 w3 w4 p1)) ∧ Fr n0 L ∧ h = h0
set_option maxRecDepth 65536 in
set_option maxHeartbeats 40000000 in
theorem rm3 (l : Launch) (Z : State) (a0 : Array Value) (hw : ∀ d ∈ tables_1, d.before a0 Z = true) (ws : List Jvm.Cond) (a0' : Addr) (p1 : Int32) (kk : ClassId) (w0 w1 w2 w3 w4 : Int32) (h0 : Heap) (n0 : Nat) (Z0 : n0 ≤ h0.size) (hf : p1 = 0 ∨ p1 = 1 ∨ p1 = 2 ∨ p1 = 3 ∨ p1 = 4 ∨ p1 = 5 ∨ p1 = 6 ∨ p1 = 7) (V_a0' : Arv Z h0 a0' kk .byte (5 : Int32) [(.int w0), (.int w1), (.int w2), (.int w3), (.int w4)] (.int (0 : Int32))) :
    MetFree l (⟨"com/example/loomwire/loomwire/chat/Chat", "indexOfSpace", "([BI)I"⟩ : MethodName) (head1 (Jvm.Cond.code (⟨"com/example/loomwire/loomwire/chat/Chat", "indexOfSpace", "([BI)I"⟩ : MethodName) prog_17_method_14_code 3 (some .int) :: ws) ({ frames := 0, cells := 0, slots := 0, locals := 0 } : Room)) (fun a U => a = #[(.ref a0'), (.int p1)] ∧ Z.Warmed39 U.vm ∧ U.heap = h0) (fun _ _ _ _ _ => True) (fun _ U o U' => ∃ v L, o = .returned v ∧ (QQ_rm3 Z a0' p1 kk w0 w1 w2 w3 w4 h0 n0) v U'.heap L ∧ FrameEnd U o U' L ({ frames := 0, cells := 0, slots := 0, locals := 0 } : Room).cells ({ frames := 0, cells := 0, slots := 0, locals := 0 } : Room).slots) := by
  refine MetFree.of_bodySF (plainFor_of_name pn_com_example_loomwire_loomwire_chat_Chat) hisR ?_
  intro p e s m args below meth c s₁ Bd hml0 hP hK
  obtain ⟨rfl, hZ, hh⟩ := hP
  have hx := Bd.exec
  have hby := Bd.bytes
  have hlk : meth.locks = false := BodyLoose.notSynchronized Bd
  have hml : c.maxLocals = 3 := hml0
  have hown : s.vm.findClass "com/example/loomwire/loomwire/chat/Chat" = some m.cls := findClass_of_methodNamed Bd.named
  have hnm := (name_of_methodNamed Bd.named Bd.method).1
  have X0 : Stand p l e ({ frames := 0, cells := 0, slots := 0, locals := 0 } : Room) s m #[(.ref a0'), (.int p1)] below meth c s₁ [] 0 0 := Stand.of_body Bd
  have e0 : s₁.heap = h0 := by rw [← hh, Bd.state]; rfl
  have N0 := Fr.nil n0
  show own_G p.tables e below s (QQ_rm3 Z a0' p1 kk w0 w1 w2 w3 w4 h0 n0) ({ frames := 0, cells := 0, slots := 0, locals := 0 } : Room).cells ({ frames := 0, cells := 0, slots := 0, locals := 0 } : Room).slots (s₁.setTop (entryFrame m #[(.ref a0'), (.int p1)] 3))
  refine own_step (B := s₁.setTop (mkF m 0 #[.val (.ref a0'), .val (.int p1), .unset] [])) (fun t k => castTop (ef_rm3 m a0' p1) k) ?_
  rcases hf with rfl | rfl | rfl | rfl | rfl | rfl | rfl | rfl
  · skip
    refine own_step (B := s₁.setTop (mkF m 1 #[.val (.ref a0'), .val (.int (0 : Int32)), .unset] [(.int (0 : Int32))])) (fun t k => XS.iloadN X0.here hx rfl (hb hby d3_0) rfl k) ?_
    refine own_step (B := s₁.setTop (mkF m 2 #[.val (.ref a0'), .val (.int (0 : Int32)), .val (.int (0 : Int32))] [])) (fun t k => XS.istoreN X0.here hx rfl (hb hby d3_1) rfl (l' := #[.val (.ref a0'), .val (.int (0 : Int32)), .val (.int (0 : Int32))]) rfl k) ?_
    refine own_step (B := s₁.setTop (mkF m 3 #[.val (.ref a0'), .val (.int (0 : Int32)), .val (.int (0 : Int32))] [(.int (0 : Int32))])) (fun t k => XS.iloadN X0.here hx rfl (hb hby d3_2) rfl k) ?_
    refine own_step (B := s₁.setTop (mkF m 4 #[.val (.ref a0'), .val (.int (0 : Int32)), .val (.int (0 : Int32))] [(.ref a0'), (.int (0 : Int32))])) (fun t k => XS.aloadN X0.here hx rfl (hb hby d3_3) rfl rfl k) ?_
    have Vo_1 := V_a0'
    obtain ⟨cl_1, Ar_1, q_1, S_1, M_1, H_1, G_1⟩ := Vo_1
    refine own_step (B := s₁.setTop (mkF m 5 #[.val (.ref a0'), .val (.int (0 : Int32)), .val (.int (0 : Int32))] [(.int (5 : Int32)), (.int (0 : Int32))])) (fun t k => X0.arraylength hx (by rw [e0]; exact Ar_1.1) (State.isArrayOf_alike hZ.alike Ar_1.2.1) (g := (mkF m 4 #[.val (.ref a0'), .val (.int (0 : Int32)), .val (.int (0 : Int32))] [(.ref a0'), (.int (0 : Int32))])) rfl rfl (hb hby d3_4) t (by rw [len_of S_1 M_1]; exact k)) ?_
    refine own_step (B := s₁.setTop (mkF m 8 #[.val (.ref a0'), .val (.int (0 : Int32)), .val (.int (0 : Int32))] [])) (fun t k => XS.icmpNo X0.here hx rfl (hb hby d3_5) rfl (tlt (by decide)).2.1 k) ?_
    refine own_step (B := s₁.setTop (mkF m 9 #[.val (.ref a0'), .val (.int (0 : Int32)), .val (.int (0 : Int32))] [(.ref a0')])) (fun t k => XS.aloadN X0.here hx rfl (hb hby d3_8) rfl rfl k) ?_
    refine own_step (B := s₁.setTop (mkF m 10 #[.val (.ref a0'), .val (.int (0 : Int32)), .val (.int (0 : Int32))] [(.int (0 : Int32)), (.ref a0')])) (fun t k => XS.iloadN X0.here hx rfl (hb hby d3_9) rfl k) ?_
    have Vo_2 := V_a0'
    obtain ⟨cl_2, Ar_2, q_2, S_2, M_2, H_2, G_2⟩ := Vo_2
    refine own_step (B := s₁.setTop (mkF m 11 #[.val (.ref a0'), .val (.int (0 : Int32)), .val (.int (0 : Int32))] [(.int w0)])) (fun t k => X0.baloadBytes hx (j := (0 : Int32)) (v := (.int w0)) (by rw [e0]; exact Ar_2.1) (State.isArrayOf_alike hZ.alike Ar_2.2.1) Ar_2.2.2 (inb_of S_2 ⟨by decide, by decide⟩) (Has.at H_2 (inb_of S_2 ⟨by decide, by decide⟩) rfl) (g := (mkF m 10 #[.val (.ref a0'), .val (.int (0 : Int32)), .val (.int (0 : Int32))] [(.int (0 : Int32)), (.ref a0')])) rfl rfl (hb hby d3_10) t k) ?_
    refine own_step (B := s₁.setTop (mkF m 13 #[.val (.ref a0'), .val (.int (0 : Int32)), .val (.int (0 : Int32))] [(.int (32 : Int32)), (.int w0)])) (fun t k => XS.bipush X0.here hx rfl (hb hby d3_11) k) ?_
    by_cases hc13 : w0 = (32 : Int32)
    · skip
      refine own_step (B := s₁.setTop (mkF m 16 #[.val (.ref a0'), .val (.int (0 : Int32)), .val (.int (0 : Int32))] [])) (fun t k => XS.icmpNo X0.here hx rfl (hb hby d3_13) rfl (teq hc13).2 k) ?_
      refine own_step (B := s₁.setTop (mkF m 17 #[.val (.ref a0'), .val (.int (0 : Int32)), .val (.int (0 : Int32))] [(.int (0 : Int32))])) (fun t k => XS.iloadN X0.here hx rfl (hb hby d3_16) rfl k) ?_
      exact own_retI X0 hx hlk Bd.returns (hb hby d3_17) (by decide) (by decide) (by have hh : own_want w0 w1 w2 w3 w4 0 = (0 : Int32) := (by simp [own_want, own_hit, hc13]); exact ⟨by rw [hh], N0, e0⟩)
    · skip
      refine own_step (B := s₁.setTop (mkF m 18 #[.val (.ref a0'), .val (.int (0 : Int32)), .val (.int (0 : Int32))] [])) (fun t k => XS.icmpYes X0.here hx rfl (pc0 := 13) (pc' := 18) rfl (hb hby d3_13) rfl (feq hc13).2 (by decide) (by decide) k) ?_
      refine own_step (B := s₁.setTop (mkF m 21 #[.val (.ref a0'), .val (.int (0 : Int32)), .val (.int (1 : Int32))] [])) (fun t k => XS.iinc X0.here hx rfl (hb hby d3_18) rfl (l' := #[.val (.ref a0'), .val (.int (0 : Int32)), .val (.int (1 : Int32))]) rfl k) ?_
      refine own_step (B := s₁.setTop (mkF m 2 #[.val (.ref a0'), .val (.int (0 : Int32)), .val (.int (1 : Int32))] [])) (fun t k => XS.goto X0.here hx rfl (pc0 := 21) (pc' := 2) rfl (hb hby d3_21) (by decide) (by decide) k) ?_
      refine own_step (B := s₁.setTop (mkF m 3 #[.val (.ref a0'), .val (.int (0 : Int32)), .val (.int (1 : Int32))] [(.int (1 : Int32))])) (fun t k => XS.iloadN X0.here hx rfl (hb hby d3_2) rfl k) ?_
      refine own_step (B := s₁.setTop (mkF m 4 #[.val (.ref a0'), .val (.int (0 : Int32)), .val (.int (1 : Int32))] [(.ref a0'), (.int (1 : Int32))])) (fun t k => XS.aloadN X0.here hx rfl (hb hby d3_3) rfl rfl k) ?_
      have Vo_3 := V_a0'
      obtain ⟨cl_3, Ar_3, q_3, S_3, M_3, H_3, G_3⟩ := Vo_3
      refine own_step (B := s₁.setTop (mkF m 5 #[.val (.ref a0'), .val (.int (0 : Int32)), .val (.int (1 : Int32))] [(.int (5 : Int32)), (.int (1 : Int32))])) (fun t k => X0.arraylength hx (by rw [e0]; exact Ar_3.1) (State.isArrayOf_alike hZ.alike Ar_3.2.1) (g := (mkF m 4 #[.val (.ref a0'), .val (.int (0 : Int32)), .val (.int (1 : Int32))] [(.ref a0'), (.int (1 : Int32))])) rfl rfl (hb hby d3_4) t (by rw [len_of S_3 M_3]; exact k)) ?_
      refine own_step (B := s₁.setTop (mkF m 8 #[.val (.ref a0'), .val (.int (0 : Int32)), .val (.int (1 : Int32))] [])) (fun t k => XS.icmpNo X0.here hx rfl (hb hby d3_5) rfl (tlt (by decide)).2.1 k) ?_
      refine own_step (B := s₁.setTop (mkF m 9 #[.val (.ref a0'), .val (.int (0 : Int32)), .val (.int (1 : Int32))] [(.ref a0')])) (fun t k => XS.aloadN X0.here hx rfl (hb hby d3_8) rfl rfl k) ?_
      refine own_step (B := s₁.setTop (mkF m 10 #[.val (.ref a0'), .val (.int (0 : Int32)), .val (.int (1 : Int32))] [(.int (1 : Int32)), (.ref a0')])) (fun t k => XS.iloadN X0.here hx rfl (hb hby d3_9) rfl k) ?_
      have Vo_4 := V_a0'
      obtain ⟨cl_4, Ar_4, q_4, S_4, M_4, H_4, G_4⟩ := Vo_4
      refine own_step (B := s₁.setTop (mkF m 11 #[.val (.ref a0'), .val (.int (0 : Int32)), .val (.int (1 : Int32))] [(.int w1)])) (fun t k => X0.baloadBytes hx (j := (1 : Int32)) (v := (.int w1)) (by rw [e0]; exact Ar_4.1) (State.isArrayOf_alike hZ.alike Ar_4.2.1) Ar_4.2.2 (inb_of S_4 ⟨by decide, by decide⟩) (Has.at H_4 (inb_of S_4 ⟨by decide, by decide⟩) rfl) (g := (mkF m 10 #[.val (.ref a0'), .val (.int (0 : Int32)), .val (.int (1 : Int32))] [(.int (1 : Int32)), (.ref a0')])) rfl rfl (hb hby d3_10) t k) ?_
      refine own_step (B := s₁.setTop (mkF m 13 #[.val (.ref a0'), .val (.int (0 : Int32)), .val (.int (1 : Int32))] [(.int (32 : Int32)), (.int w1)])) (fun t k => XS.bipush X0.here hx rfl (hb hby d3_11) k) ?_
      by_cases hc13_5 : w1 = (32 : Int32)
      · skip
        refine own_step (B := s₁.setTop (mkF m 16 #[.val (.ref a0'), .val (.int (0 : Int32)), .val (.int (1 : Int32))] [])) (fun t k => XS.icmpNo X0.here hx rfl (hb hby d3_13) rfl (teq hc13_5).2 k) ?_
        refine own_step (B := s₁.setTop (mkF m 17 #[.val (.ref a0'), .val (.int (0 : Int32)), .val (.int (1 : Int32))] [(.int (1 : Int32))])) (fun t k => XS.iloadN X0.here hx rfl (hb hby d3_16) rfl k) ?_
        exact own_retI X0 hx hlk Bd.returns (hb hby d3_17) (by decide) (by decide) (by have hh : own_want w0 w1 w2 w3 w4 0 = (1 : Int32) := (by simp [own_want, own_hit, hc13, hc13_5]); exact ⟨by rw [hh], N0, e0⟩)
      · skip
        refine own_step (B := s₁.setTop (mkF m 18 #[.val (.ref a0'), .val (.int (0 : Int32)), .val (.int (1 : Int32))] [])) (fun t k => XS.icmpYes X0.here hx rfl (pc0 := 13) (pc' := 18) rfl (hb hby d3_13) rfl (feq hc13_5).2 (by decide) (by decide) k) ?_
        refine own_step (B := s₁.setTop (mkF m 21 #[.val (.ref a0'), .val (.int (0 : Int32)), .val (.int (2 : Int32))] [])) (fun t k => XS.iinc X0.here hx rfl (hb hby d3_18) rfl (l' := #[.val (.ref a0'), .val (.int (0 : Int32)), .val (.int (2 : Int32))]) rfl k) ?_
        refine own_step (B := s₁.setTop (mkF m 2 #[.val (.ref a0'), .val (.int (0 : Int32)), .val (.int (2 : Int32))] [])) (fun t k => XS.goto X0.here hx rfl (pc0 := 21) (pc' := 2) rfl (hb hby d3_21) (by decide) (by decide) k) ?_
        refine own_step (B := s₁.setTop (mkF m 3 #[.val (.ref a0'), .val (.int (0 : Int32)), .val (.int (2 : Int32))] [(.int (2 : Int32))])) (fun t k => XS.iloadN X0.here hx rfl (hb hby d3_2) rfl k) ?_
        refine own_step (B := s₁.setTop (mkF m 4 #[.val (.ref a0'), .val (.int (0 : Int32)), .val (.int (2 : Int32))] [(.ref a0'), (.int (2 : Int32))])) (fun t k => XS.aloadN X0.here hx rfl (hb hby d3_3) rfl rfl k) ?_
        have Vo_6 := V_a0'
        obtain ⟨cl_6, Ar_6, q_6, S_6, M_6, H_6, G_6⟩ := Vo_6
        refine own_step (B := s₁.setTop (mkF m 5 #[.val (.ref a0'), .val (.int (0 : Int32)), .val (.int (2 : Int32))] [(.int (5 : Int32)), (.int (2 : Int32))])) (fun t k => X0.arraylength hx (by rw [e0]; exact Ar_6.1) (State.isArrayOf_alike hZ.alike Ar_6.2.1) (g := (mkF m 4 #[.val (.ref a0'), .val (.int (0 : Int32)), .val (.int (2 : Int32))] [(.ref a0'), (.int (2 : Int32))])) rfl rfl (hb hby d3_4) t (by rw [len_of S_6 M_6]; exact k)) ?_
        refine own_step (B := s₁.setTop (mkF m 8 #[.val (.ref a0'), .val (.int (0 : Int32)), .val (.int (2 : Int32))] [])) (fun t k => XS.icmpNo X0.here hx rfl (hb hby d3_5) rfl (tlt (by decide)).2.1 k) ?_
        refine own_step (B := s₁.setTop (mkF m 9 #[.val (.ref a0'), .val (.int (0 : Int32)), .val (.int (2 : Int32))] [(.ref a0')])) (fun t k => XS.aloadN X0.here hx rfl (hb hby d3_8) rfl rfl k) ?_
        refine own_step (B := s₁.setTop (mkF m 10 #[.val (.ref a0'), .val (.int (0 : Int32)), .val (.int (2 : Int32))] [(.int (2 : Int32)), (.ref a0')])) (fun t k => XS.iloadN X0.here hx rfl (hb hby d3_9) rfl k) ?_
        have Vo_7 := V_a0'
        obtain ⟨cl_7, Ar_7, q_7, S_7, M_7, H_7, G_7⟩ := Vo_7
        refine own_step (B := s₁.setTop (mkF m 11 #[.val (.ref a0'), .val (.int (0 : Int32)), .val (.int (2 : Int32))] [(.int w2)])) (fun t k => X0.baloadBytes hx (j := (2 : Int32)) (v := (.int w2)) (by rw [e0]; exact Ar_7.1) (State.isArrayOf_alike hZ.alike Ar_7.2.1) Ar_7.2.2 (inb_of S_7 ⟨by decide, by decide⟩) (Has.at H_7 (inb_of S_7 ⟨by decide, by decide⟩) rfl) (g := (mkF m 10 #[.val (.ref a0'), .val (.int (0 : Int32)), .val (.int (2 : Int32))] [(.int (2 : Int32)), (.ref a0')])) rfl rfl (hb hby d3_10) t k) ?_
        refine own_step (B := s₁.setTop (mkF m 13 #[.val (.ref a0'), .val (.int (0 : Int32)), .val (.int (2 : Int32))] [(.int (32 : Int32)), (.int w2)])) (fun t k => XS.bipush X0.here hx rfl (hb hby d3_11) k) ?_
        by_cases hc13_8 : w2 = (32 : Int32)
        · skip
          refine own_step (B := s₁.setTop (mkF m 16 #[.val (.ref a0'), .val (.int (0 : Int32)), .val (.int (2 : Int32))] [])) (fun t k => XS.icmpNo X0.here hx rfl (hb hby d3_13) rfl (teq hc13_8).2 k) ?_
          refine own_step (B := s₁.setTop (mkF m 17 #[.val (.ref a0'), .val (.int (0 : Int32)), .val (.int (2 : Int32))] [(.int (2 : Int32))])) (fun t k => XS.iloadN X0.here hx rfl (hb hby d3_16) rfl k) ?_
          exact own_retI X0 hx hlk Bd.returns (hb hby d3_17) (by decide) (by decide) (by have hh : own_want w0 w1 w2 w3 w4 0 = (2 : Int32) := (by simp [own_want, own_hit, hc13, hc13_5, hc13_8]); exact ⟨by rw [hh], N0, e0⟩)
        · skip
          refine own_step (B := s₁.setTop (mkF m 18 #[.val (.ref a0'), .val (.int (0 : Int32)), .val (.int (2 : Int32))] [])) (fun t k => XS.icmpYes X0.here hx rfl (pc0 := 13) (pc' := 18) rfl (hb hby d3_13) rfl (feq hc13_8).2 (by decide) (by decide) k) ?_
          refine own_step (B := s₁.setTop (mkF m 21 #[.val (.ref a0'), .val (.int (0 : Int32)), .val (.int (3 : Int32))] [])) (fun t k => XS.iinc X0.here hx rfl (hb hby d3_18) rfl (l' := #[.val (.ref a0'), .val (.int (0 : Int32)), .val (.int (3 : Int32))]) rfl k) ?_
          refine own_step (B := s₁.setTop (mkF m 2 #[.val (.ref a0'), .val (.int (0 : Int32)), .val (.int (3 : Int32))] [])) (fun t k => XS.goto X0.here hx rfl (pc0 := 21) (pc' := 2) rfl (hb hby d3_21) (by decide) (by decide) k) ?_
          refine own_step (B := s₁.setTop (mkF m 3 #[.val (.ref a0'), .val (.int (0 : Int32)), .val (.int (3 : Int32))] [(.int (3 : Int32))])) (fun t k => XS.iloadN X0.here hx rfl (hb hby d3_2) rfl k) ?_
          refine own_step (B := s₁.setTop (mkF m 4 #[.val (.ref a0'), .val (.int (0 : Int32)), .val (.int (3 : Int32))] [(.ref a0'), (.int (3 : Int32))])) (fun t k => XS.aloadN X0.here hx rfl (hb hby d3_3) rfl rfl k) ?_
          have Vo_9 := V_a0'
          obtain ⟨cl_9, Ar_9, q_9, S_9, M_9, H_9, G_9⟩ := Vo_9
          refine own_step (B := s₁.setTop (mkF m 5 #[.val (.ref a0'), .val (.int (0 : Int32)), .val (.int (3 : Int32))] [(.int (5 : Int32)), (.int (3 : Int32))])) (fun t k => X0.arraylength hx (by rw [e0]; exact Ar_9.1) (State.isArrayOf_alike hZ.alike Ar_9.2.1) (g := (mkF m 4 #[.val (.ref a0'), .val (.int (0 : Int32)), .val (.int (3 : Int32))] [(.ref a0'), (.int (3 : Int32))])) rfl rfl (hb hby d3_4) t (by rw [len_of S_9 M_9]; exact k)) ?_
          refine own_step (B := s₁.setTop (mkF m 8 #[.val (.ref a0'), .val (.int (0 : Int32)), .val (.int (3 : Int32))] [])) (fun t k => XS.icmpNo X0.here hx rfl (hb hby d3_5) rfl (tlt (by decide)).2.1 k) ?_
          refine own_step (B := s₁.setTop (mkF m 9 #[.val (.ref a0'), .val (.int (0 : Int32)), .val (.int (3 : Int32))] [(.ref a0')])) (fun t k => XS.aloadN X0.here hx rfl (hb hby d3_8) rfl rfl k) ?_
          refine own_step (B := s₁.setTop (mkF m 10 #[.val (.ref a0'), .val (.int (0 : Int32)), .val (.int (3 : Int32))] [(.int (3 : Int32)), (.ref a0')])) (fun t k => XS.iloadN X0.here hx rfl (hb hby d3_9) rfl k) ?_
          have Vo_10 := V_a0'
          obtain ⟨cl_10, Ar_10, q_10, S_10, M_10, H_10, G_10⟩ := Vo_10
          refine own_step (B := s₁.setTop (mkF m 11 #[.val (.ref a0'), .val (.int (0 : Int32)), .val (.int (3 : Int32))] [(.int w3)])) (fun t k => X0.baloadBytes hx (j := (3 : Int32)) (v := (.int w3)) (by rw [e0]; exact Ar_10.1) (State.isArrayOf_alike hZ.alike Ar_10.2.1) Ar_10.2.2 (inb_of S_10 ⟨by decide, by decide⟩) (Has.at H_10 (inb_of S_10 ⟨by decide, by decide⟩) rfl) (g := (mkF m 10 #[.val (.ref a0'), .val (.int (0 : Int32)), .val (.int (3 : Int32))] [(.int (3 : Int32)), (.ref a0')])) rfl rfl (hb hby d3_10) t k) ?_
          refine own_step (B := s₁.setTop (mkF m 13 #[.val (.ref a0'), .val (.int (0 : Int32)), .val (.int (3 : Int32))] [(.int (32 : Int32)), (.int w3)])) (fun t k => XS.bipush X0.here hx rfl (hb hby d3_11) k) ?_
          by_cases hc13_11 : w3 = (32 : Int32)
          · skip
            refine own_step (B := s₁.setTop (mkF m 16 #[.val (.ref a0'), .val (.int (0 : Int32)), .val (.int (3 : Int32))] [])) (fun t k => XS.icmpNo X0.here hx rfl (hb hby d3_13) rfl (teq hc13_11).2 k) ?_
            refine own_step (B := s₁.setTop (mkF m 17 #[.val (.ref a0'), .val (.int (0 : Int32)), .val (.int (3 : Int32))] [(.int (3 : Int32))])) (fun t k => XS.iloadN X0.here hx rfl (hb hby d3_16) rfl k) ?_
            exact own_retI X0 hx hlk Bd.returns (hb hby d3_17) (by decide) (by decide) (by have hh : own_want w0 w1 w2 w3 w4 0 = (3 : Int32) := (by simp [own_want, own_hit, hc13, hc13_5, hc13_8, hc13_11]); exact ⟨by rw [hh], N0, e0⟩)
          · skip
            refine own_step (B := s₁.setTop (mkF m 18 #[.val (.ref a0'), .val (.int (0 : Int32)), .val (.int (3 : Int32))] [])) (fun t k => XS.icmpYes X0.here hx rfl (pc0 := 13) (pc' := 18) rfl (hb hby d3_13) rfl (feq hc13_11).2 (by decide) (by decide) k) ?_
            refine own_step (B := s₁.setTop (mkF m 21 #[.val (.ref a0'), .val (.int (0 : Int32)), .val (.int (4 : Int32))] [])) (fun t k => XS.iinc X0.here hx rfl (hb hby d3_18) rfl (l' := #[.val (.ref a0'), .val (.int (0 : Int32)), .val (.int (4 : Int32))]) rfl k) ?_
            refine own_step (B := s₁.setTop (mkF m 2 #[.val (.ref a0'), .val (.int (0 : Int32)), .val (.int (4 : Int32))] [])) (fun t k => XS.goto X0.here hx rfl (pc0 := 21) (pc' := 2) rfl (hb hby d3_21) (by decide) (by decide) k) ?_
            refine own_step (B := s₁.setTop (mkF m 3 #[.val (.ref a0'), .val (.int (0 : Int32)), .val (.int (4 : Int32))] [(.int (4 : Int32))])) (fun t k => XS.iloadN X0.here hx rfl (hb hby d3_2) rfl k) ?_
            refine own_step (B := s₁.setTop (mkF m 4 #[.val (.ref a0'), .val (.int (0 : Int32)), .val (.int (4 : Int32))] [(.ref a0'), (.int (4 : Int32))])) (fun t k => XS.aloadN X0.here hx rfl (hb hby d3_3) rfl rfl k) ?_
            have Vo_12 := V_a0'
            obtain ⟨cl_12, Ar_12, q_12, S_12, M_12, H_12, G_12⟩ := Vo_12
            refine own_step (B := s₁.setTop (mkF m 5 #[.val (.ref a0'), .val (.int (0 : Int32)), .val (.int (4 : Int32))] [(.int (5 : Int32)), (.int (4 : Int32))])) (fun t k => X0.arraylength hx (by rw [e0]; exact Ar_12.1) (State.isArrayOf_alike hZ.alike Ar_12.2.1) (g := (mkF m 4 #[.val (.ref a0'), .val (.int (0 : Int32)), .val (.int (4 : Int32))] [(.ref a0'), (.int (4 : Int32))])) rfl rfl (hb hby d3_4) t (by rw [len_of S_12 M_12]; exact k)) ?_
            refine own_step (B := s₁.setTop (mkF m 8 #[.val (.ref a0'), .val (.int (0 : Int32)), .val (.int (4 : Int32))] [])) (fun t k => XS.icmpNo X0.here hx rfl (hb hby d3_5) rfl (tlt (by decide)).2.1 k) ?_
            refine own_step (B := s₁.setTop (mkF m 9 #[.val (.ref a0'), .val (.int (0 : Int32)), .val (.int (4 : Int32))] [(.ref a0')])) (fun t k => XS.aloadN X0.here hx rfl (hb hby d3_8) rfl rfl k) ?_
            refine own_step (B := s₁.setTop (mkF m 10 #[.val (.ref a0'), .val (.int (0 : Int32)), .val (.int (4 : Int32))] [(.int (4 : Int32)), (.ref a0')])) (fun t k => XS.iloadN X0.here hx rfl (hb hby d3_9) rfl k) ?_
            have Vo_13 := V_a0'
            obtain ⟨cl_13, Ar_13, q_13, S_13, M_13, H_13, G_13⟩ := Vo_13
            refine own_step (B := s₁.setTop (mkF m 11 #[.val (.ref a0'), .val (.int (0 : Int32)), .val (.int (4 : Int32))] [(.int w4)])) (fun t k => X0.baloadBytes hx (j := (4 : Int32)) (v := (.int w4)) (by rw [e0]; exact Ar_13.1) (State.isArrayOf_alike hZ.alike Ar_13.2.1) Ar_13.2.2 (inb_of S_13 ⟨by decide, by decide⟩) (Has.at H_13 (inb_of S_13 ⟨by decide, by decide⟩) rfl) (g := (mkF m 10 #[.val (.ref a0'), .val (.int (0 : Int32)), .val (.int (4 : Int32))] [(.int (4 : Int32)), (.ref a0')])) rfl rfl (hb hby d3_10) t k) ?_
            refine own_step (B := s₁.setTop (mkF m 13 #[.val (.ref a0'), .val (.int (0 : Int32)), .val (.int (4 : Int32))] [(.int (32 : Int32)), (.int w4)])) (fun t k => XS.bipush X0.here hx rfl (hb hby d3_11) k) ?_
            by_cases hc13_14 : w4 = (32 : Int32)
            · skip
              refine own_step (B := s₁.setTop (mkF m 16 #[.val (.ref a0'), .val (.int (0 : Int32)), .val (.int (4 : Int32))] [])) (fun t k => XS.icmpNo X0.here hx rfl (hb hby d3_13) rfl (teq hc13_14).2 k) ?_
              refine own_step (B := s₁.setTop (mkF m 17 #[.val (.ref a0'), .val (.int (0 : Int32)), .val (.int (4 : Int32))] [(.int (4 : Int32))])) (fun t k => XS.iloadN X0.here hx rfl (hb hby d3_16) rfl k) ?_
              exact own_retI X0 hx hlk Bd.returns (hb hby d3_17) (by decide) (by decide) (by have hh : own_want w0 w1 w2 w3 w4 0 = (4 : Int32) := (by simp [own_want, own_hit, hc13, hc13_5, hc13_8, hc13_11, hc13_14]); exact ⟨by rw [hh], N0, e0⟩)
            · skip
              refine own_step (B := s₁.setTop (mkF m 18 #[.val (.ref a0'), .val (.int (0 : Int32)), .val (.int (4 : Int32))] [])) (fun t k => XS.icmpYes X0.here hx rfl (pc0 := 13) (pc' := 18) rfl (hb hby d3_13) rfl (feq hc13_14).2 (by decide) (by decide) k) ?_
              refine own_step (B := s₁.setTop (mkF m 21 #[.val (.ref a0'), .val (.int (0 : Int32)), .val (.int (5 : Int32))] [])) (fun t k => XS.iinc X0.here hx rfl (hb hby d3_18) rfl (l' := #[.val (.ref a0'), .val (.int (0 : Int32)), .val (.int (5 : Int32))]) rfl k) ?_
              refine own_step (B := s₁.setTop (mkF m 2 #[.val (.ref a0'), .val (.int (0 : Int32)), .val (.int (5 : Int32))] [])) (fun t k => XS.goto X0.here hx rfl (pc0 := 21) (pc' := 2) rfl (hb hby d3_21) (by decide) (by decide) k) ?_
              refine own_step (B := s₁.setTop (mkF m 3 #[.val (.ref a0'), .val (.int (0 : Int32)), .val (.int (5 : Int32))] [(.int (5 : Int32))])) (fun t k => XS.iloadN X0.here hx rfl (hb hby d3_2) rfl k) ?_
              refine own_step (B := s₁.setTop (mkF m 4 #[.val (.ref a0'), .val (.int (0 : Int32)), .val (.int (5 : Int32))] [(.ref a0'), (.int (5 : Int32))])) (fun t k => XS.aloadN X0.here hx rfl (hb hby d3_3) rfl rfl k) ?_
              have Vo_15 := V_a0'
              obtain ⟨cl_15, Ar_15, q_15, S_15, M_15, H_15, G_15⟩ := Vo_15
              refine own_step (B := s₁.setTop (mkF m 5 #[.val (.ref a0'), .val (.int (0 : Int32)), .val (.int (5 : Int32))] [(.int (5 : Int32)), (.int (5 : Int32))])) (fun t k => X0.arraylength hx (by rw [e0]; exact Ar_15.1) (State.isArrayOf_alike hZ.alike Ar_15.2.1) (g := (mkF m 4 #[.val (.ref a0'), .val (.int (0 : Int32)), .val (.int (5 : Int32))] [(.ref a0'), (.int (5 : Int32))])) rfl rfl (hb hby d3_4) t (by rw [len_of S_15 M_15]; exact k)) ?_
              refine own_step (B := s₁.setTop (mkF m 24 #[.val (.ref a0'), .val (.int (0 : Int32)), .val (.int (5 : Int32))] [])) (fun t k => XS.icmpYes X0.here hx rfl (pc0 := 5) (pc' := 24) rfl (hb hby d3_5) rfl (flt (by decide)).2.1 (by decide) (by decide) k) ?_
              refine own_step (B := s₁.setTop (mkF m 25 #[.val (.ref a0'), .val (.int (0 : Int32)), .val (.int (5 : Int32))] [(.int (-1 : Int32))])) (fun t k => XS.iconst X0.here hx rfl (hb hby d3_24) k) ?_
              exact own_retI X0 hx hlk Bd.returns (hb hby d3_25) (by decide) (by decide) (by have hh : own_want w0 w1 w2 w3 w4 0 = (-1 : Int32) := (by simp [own_want, own_hit, hc13, hc13_5, hc13_8, hc13_11, hc13_14]); exact ⟨by rw [hh], N0, e0⟩)
  · skip
    refine own_step (B := s₁.setTop (mkF m 1 #[.val (.ref a0'), .val (.int (1 : Int32)), .unset] [(.int (1 : Int32))])) (fun t k => XS.iloadN X0.here hx rfl (hb hby d3_0) rfl k) ?_
    refine own_step (B := s₁.setTop (mkF m 2 #[.val (.ref a0'), .val (.int (1 : Int32)), .val (.int (1 : Int32))] [])) (fun t k => XS.istoreN X0.here hx rfl (hb hby d3_1) rfl (l' := #[.val (.ref a0'), .val (.int (1 : Int32)), .val (.int (1 : Int32))]) rfl k) ?_
    refine own_step (B := s₁.setTop (mkF m 3 #[.val (.ref a0'), .val (.int (1 : Int32)), .val (.int (1 : Int32))] [(.int (1 : Int32))])) (fun t k => XS.iloadN X0.here hx rfl (hb hby d3_2) rfl k) ?_
    refine own_step (B := s₁.setTop (mkF m 4 #[.val (.ref a0'), .val (.int (1 : Int32)), .val (.int (1 : Int32))] [(.ref a0'), (.int (1 : Int32))])) (fun t k => XS.aloadN X0.here hx rfl (hb hby d3_3) rfl rfl k) ?_
    have Vo_16 := V_a0'
    obtain ⟨cl_16, Ar_16, q_16, S_16, M_16, H_16, G_16⟩ := Vo_16
    refine own_step (B := s₁.setTop (mkF m 5 #[.val (.ref a0'), .val (.int (1 : Int32)), .val (.int (1 : Int32))] [(.int (5 : Int32)), (.int (1 : Int32))])) (fun t k => X0.arraylength hx (by rw [e0]; exact Ar_16.1) (State.isArrayOf_alike hZ.alike Ar_16.2.1) (g := (mkF m 4 #[.val (.ref a0'), .val (.int (1 : Int32)), .val (.int (1 : Int32))] [(.ref a0'), (.int (1 : Int32))])) rfl rfl (hb hby d3_4) t (by rw [len_of S_16 M_16]; exact k)) ?_
    refine own_step (B := s₁.setTop (mkF m 8 #[.val (.ref a0'), .val (.int (1 : Int32)), .val (.int (1 : Int32))] [])) (fun t k => XS.icmpNo X0.here hx rfl (hb hby d3_5) rfl (tlt (by decide)).2.1 k) ?_
    refine own_step (B := s₁.setTop (mkF m 9 #[.val (.ref a0'), .val (.int (1 : Int32)), .val (.int (1 : Int32))] [(.ref a0')])) (fun t k => XS.aloadN X0.here hx rfl (hb hby d3_8) rfl rfl k) ?_
    refine own_step (B := s₁.setTop (mkF m 10 #[.val (.ref a0'), .val (.int (1 : Int32)), .val (.int (1 : Int32))] [(.int (1 : Int32)), (.ref a0')])) (fun t k => XS.iloadN X0.here hx rfl (hb hby d3_9) rfl k) ?_
    have Vo_17 := V_a0'
    obtain ⟨cl_17, Ar_17, q_17, S_17, M_17, H_17, G_17⟩ := Vo_17
    refine own_step (B := s₁.setTop (mkF m 11 #[.val (.ref a0'), .val (.int (1 : Int32)), .val (.int (1 : Int32))] [(.int w1)])) (fun t k => X0.baloadBytes hx (j := (1 : Int32)) (v := (.int w1)) (by rw [e0]; exact Ar_17.1) (State.isArrayOf_alike hZ.alike Ar_17.2.1) Ar_17.2.2 (inb_of S_17 ⟨by decide, by decide⟩) (Has.at H_17 (inb_of S_17 ⟨by decide, by decide⟩) rfl) (g := (mkF m 10 #[.val (.ref a0'), .val (.int (1 : Int32)), .val (.int (1 : Int32))] [(.int (1 : Int32)), (.ref a0')])) rfl rfl (hb hby d3_10) t k) ?_
    refine own_step (B := s₁.setTop (mkF m 13 #[.val (.ref a0'), .val (.int (1 : Int32)), .val (.int (1 : Int32))] [(.int (32 : Int32)), (.int w1)])) (fun t k => XS.bipush X0.here hx rfl (hb hby d3_11) k) ?_
    by_cases hc13 : w1 = (32 : Int32)
    · skip
      refine own_step (B := s₁.setTop (mkF m 16 #[.val (.ref a0'), .val (.int (1 : Int32)), .val (.int (1 : Int32))] [])) (fun t k => XS.icmpNo X0.here hx rfl (hb hby d3_13) rfl (teq hc13).2 k) ?_
      refine own_step (B := s₁.setTop (mkF m 17 #[.val (.ref a0'), .val (.int (1 : Int32)), .val (.int (1 : Int32))] [(.int (1 : Int32))])) (fun t k => XS.iloadN X0.here hx rfl (hb hby d3_16) rfl k) ?_
      exact own_retI X0 hx hlk Bd.returns (hb hby d3_17) (by decide) (by decide) (by have hh : own_want w0 w1 w2 w3 w4 1 = (1 : Int32) := (by simp [own_want, own_hit, hc13]); exact ⟨by rw [hh], N0, e0⟩)
    · skip
      refine own_step (B := s₁.setTop (mkF m 18 #[.val (.ref a0'), .val (.int (1 : Int32)), .val (.int (1 : Int32))] [])) (fun t k => XS.icmpYes X0.here hx rfl (pc0 := 13) (pc' := 18) rfl (hb hby d3_13) rfl (feq hc13).2 (by decide) (by decide) k) ?_
      refine own_step (B := s₁.setTop (mkF m 21 #[.val (.ref a0'), .val (.int (1 : Int32)), .val (.int (2 : Int32))] [])) (fun t k => XS.iinc X0.here hx rfl (hb hby d3_18) rfl (l' := #[.val (.ref a0'), .val (.int (1 : Int32)), .val (.int (2 : Int32))]) rfl k) ?_
      refine own_step (B := s₁.setTop (mkF m 2 #[.val (.ref a0'), .val (.int (1 : Int32)), .val (.int (2 : Int32))] [])) (fun t k => XS.goto X0.here hx rfl (pc0 := 21) (pc' := 2) rfl (hb hby d3_21) (by decide) (by decide) k) ?_
      refine own_step (B := s₁.setTop (mkF m 3 #[.val (.ref a0'), .val (.int (1 : Int32)), .val (.int (2 : Int32))] [(.int (2 : Int32))])) (fun t k => XS.iloadN X0.here hx rfl (hb hby d3_2) rfl k) ?_
      refine own_step (B := s₁.setTop (mkF m 4 #[.val (.ref a0'), .val (.int (1 : Int32)), .val (.int (2 : Int32))] [(.ref a0'), (.int (2 : Int32))])) (fun t k => XS.aloadN X0.here hx rfl (hb hby d3_3) rfl rfl k) ?_
      have Vo_18 := V_a0'
      obtain ⟨cl_18, Ar_18, q_18, S_18, M_18, H_18, G_18⟩ := Vo_18
      refine own_step (B := s₁.setTop (mkF m 5 #[.val (.ref a0'), .val (.int (1 : Int32)), .val (.int (2 : Int32))] [(.int (5 : Int32)), (.int (2 : Int32))])) (fun t k => X0.arraylength hx (by rw [e0]; exact Ar_18.1) (State.isArrayOf_alike hZ.alike Ar_18.2.1) (g := (mkF m 4 #[.val (.ref a0'), .val (.int (1 : Int32)), .val (.int (2 : Int32))] [(.ref a0'), (.int (2 : Int32))])) rfl rfl (hb hby d3_4) t (by rw [len_of S_18 M_18]; exact k)) ?_
      refine own_step (B := s₁.setTop (mkF m 8 #[.val (.ref a0'), .val (.int (1 : Int32)), .val (.int (2 : Int32))] [])) (fun t k => XS.icmpNo X0.here hx rfl (hb hby d3_5) rfl (tlt (by decide)).2.1 k) ?_
      refine own_step (B := s₁.setTop (mkF m 9 #[.val (.ref a0'), .val (.int (1 : Int32)), .val (.int (2 : Int32))] [(.ref a0')])) (fun t k => XS.aloadN X0.here hx rfl (hb hby d3_8) rfl rfl k) ?_
      refine own_step (B := s₁.setTop (mkF m 10 #[.val (.ref a0'), .val (.int (1 : Int32)), .val (.int (2 : Int32))] [(.int (2 : Int32)), (.ref a0')])) (fun t k => XS.iloadN X0.here hx rfl (hb hby d3_9) rfl k) ?_
      have Vo_19 := V_a0'
      obtain ⟨cl_19, Ar_19, q_19, S_19, M_19, H_19, G_19⟩ := Vo_19
      refine own_step (B := s₁.setTop (mkF m 11 #[.val (.ref a0'), .val (.int (1 : Int32)), .val (.int (2 : Int32))] [(.int w2)])) (fun t k => X0.baloadBytes hx (j := (2 : Int32)) (v := (.int w2)) (by rw [e0]; exact Ar_19.1) (State.isArrayOf_alike hZ.alike Ar_19.2.1) Ar_19.2.2 (inb_of S_19 ⟨by decide, by decide⟩) (Has.at H_19 (inb_of S_19 ⟨by decide, by decide⟩) rfl) (g := (mkF m 10 #[.val (.ref a0'), .val (.int (1 : Int32)), .val (.int (2 : Int32))] [(.int (2 : Int32)), (.ref a0')])) rfl rfl (hb hby d3_10) t k) ?_
      refine own_step (B := s₁.setTop (mkF m 13 #[.val (.ref a0'), .val (.int (1 : Int32)), .val (.int (2 : Int32))] [(.int (32 : Int32)), (.int w2)])) (fun t k => XS.bipush X0.here hx rfl (hb hby d3_11) k) ?_
      by_cases hc13_20 : w2 = (32 : Int32)
      · skip
        refine own_step (B := s₁.setTop (mkF m 16 #[.val (.ref a0'), .val (.int (1 : Int32)), .val (.int (2 : Int32))] [])) (fun t k => XS.icmpNo X0.here hx rfl (hb hby d3_13) rfl (teq hc13_20).2 k) ?_
        refine own_step (B := s₁.setTop (mkF m 17 #[.val (.ref a0'), .val (.int (1 : Int32)), .val (.int (2 : Int32))] [(.int (2 : Int32))])) (fun t k => XS.iloadN X0.here hx rfl (hb hby d3_16) rfl k) ?_
        exact own_retI X0 hx hlk Bd.returns (hb hby d3_17) (by decide) (by decide) (by have hh : own_want w0 w1 w2 w3 w4 1 = (2 : Int32) := (by simp [own_want, own_hit, hc13, hc13_20]); exact ⟨by rw [hh], N0, e0⟩)
      · skip
        refine own_step (B := s₁.setTop (mkF m 18 #[.val (.ref a0'), .val (.int (1 : Int32)), .val (.int (2 : Int32))] [])) (fun t k => XS.icmpYes X0.here hx rfl (pc0 := 13) (pc' := 18) rfl (hb hby d3_13) rfl (feq hc13_20).2 (by decide) (by decide) k) ?_
        refine own_step (B := s₁.setTop (mkF m 21 #[.val (.ref a0'), .val (.int (1 : Int32)), .val (.int (3 : Int32))] [])) (fun t k => XS.iinc X0.here hx rfl (hb hby d3_18) rfl (l' := #[.val (.ref a0'), .val (.int (1 : Int32)), .val (.int (3 : Int32))]) rfl k) ?_
        refine own_step (B := s₁.setTop (mkF m 2 #[.val (.ref a0'), .val (.int (1 : Int32)), .val (.int (3 : Int32))] [])) (fun t k => XS.goto X0.here hx rfl (pc0 := 21) (pc' := 2) rfl (hb hby d3_21) (by decide) (by decide) k) ?_
        refine own_step (B := s₁.setTop (mkF m 3 #[.val (.ref a0'), .val (.int (1 : Int32)), .val (.int (3 : Int32))] [(.int (3 : Int32))])) (fun t k => XS.iloadN X0.here hx rfl (hb hby d3_2) rfl k) ?_
        refine own_step (B := s₁.setTop (mkF m 4 #[.val (.ref a0'), .val (.int (1 : Int32)), .val (.int (3 : Int32))] [(.ref a0'), (.int (3 : Int32))])) (fun t k => XS.aloadN X0.here hx rfl (hb hby d3_3) rfl rfl k) ?_
        have Vo_21 := V_a0'
        obtain ⟨cl_21, Ar_21, q_21, S_21, M_21, H_21, G_21⟩ := Vo_21
        refine own_step (B := s₁.setTop (mkF m 5 #[.val (.ref a0'), .val (.int (1 : Int32)), .val (.int (3 : Int32))] [(.int (5 : Int32)), (.int (3 : Int32))])) (fun t k => X0.arraylength hx (by rw [e0]; exact Ar_21.1) (State.isArrayOf_alike hZ.alike Ar_21.2.1) (g := (mkF m 4 #[.val (.ref a0'), .val (.int (1 : Int32)), .val (.int (3 : Int32))] [(.ref a0'), (.int (3 : Int32))])) rfl rfl (hb hby d3_4) t (by rw [len_of S_21 M_21]; exact k)) ?_
        refine own_step (B := s₁.setTop (mkF m 8 #[.val (.ref a0'), .val (.int (1 : Int32)), .val (.int (3 : Int32))] [])) (fun t k => XS.icmpNo X0.here hx rfl (hb hby d3_5) rfl (tlt (by decide)).2.1 k) ?_
        refine own_step (B := s₁.setTop (mkF m 9 #[.val (.ref a0'), .val (.int (1 : Int32)), .val (.int (3 : Int32))] [(.ref a0')])) (fun t k => XS.aloadN X0.here hx rfl (hb hby d3_8) rfl rfl k) ?_
        refine own_step (B := s₁.setTop (mkF m 10 #[.val (.ref a0'), .val (.int (1 : Int32)), .val (.int (3 : Int32))] [(.int (3 : Int32)), (.ref a0')])) (fun t k => XS.iloadN X0.here hx rfl (hb hby d3_9) rfl k) ?_
        have Vo_22 := V_a0'
        obtain ⟨cl_22, Ar_22, q_22, S_22, M_22, H_22, G_22⟩ := Vo_22
        refine own_step (B := s₁.setTop (mkF m 11 #[.val (.ref a0'), .val (.int (1 : Int32)), .val (.int (3 : Int32))] [(.int w3)])) (fun t k => X0.baloadBytes hx (j := (3 : Int32)) (v := (.int w3)) (by rw [e0]; exact Ar_22.1) (State.isArrayOf_alike hZ.alike Ar_22.2.1) Ar_22.2.2 (inb_of S_22 ⟨by decide, by decide⟩) (Has.at H_22 (inb_of S_22 ⟨by decide, by decide⟩) rfl) (g := (mkF m 10 #[.val (.ref a0'), .val (.int (1 : Int32)), .val (.int (3 : Int32))] [(.int (3 : Int32)), (.ref a0')])) rfl rfl (hb hby d3_10) t k) ?_
        refine own_step (B := s₁.setTop (mkF m 13 #[.val (.ref a0'), .val (.int (1 : Int32)), .val (.int (3 : Int32))] [(.int (32 : Int32)), (.int w3)])) (fun t k => XS.bipush X0.here hx rfl (hb hby d3_11) k) ?_
        by_cases hc13_23 : w3 = (32 : Int32)
        · skip
          refine own_step (B := s₁.setTop (mkF m 16 #[.val (.ref a0'), .val (.int (1 : Int32)), .val (.int (3 : Int32))] [])) (fun t k => XS.icmpNo X0.here hx rfl (hb hby d3_13) rfl (teq hc13_23).2 k) ?_
          refine own_step (B := s₁.setTop (mkF m 17 #[.val (.ref a0'), .val (.int (1 : Int32)), .val (.int (3 : Int32))] [(.int (3 : Int32))])) (fun t k => XS.iloadN X0.here hx rfl (hb hby d3_16) rfl k) ?_
          exact own_retI X0 hx hlk Bd.returns (hb hby d3_17) (by decide) (by decide) (by have hh : own_want w0 w1 w2 w3 w4 1 = (3 : Int32) := (by simp [own_want, own_hit, hc13, hc13_20, hc13_23]); exact ⟨by rw [hh], N0, e0⟩)
        · skip
          refine own_step (B := s₁.setTop (mkF m 18 #[.val (.ref a0'), .val (.int (1 : Int32)), .val (.int (3 : Int32))] [])) (fun t k => XS.icmpYes X0.here hx rfl (pc0 := 13) (pc' := 18) rfl (hb hby d3_13) rfl (feq hc13_23).2 (by decide) (by decide) k) ?_
          refine own_step (B := s₁.setTop (mkF m 21 #[.val (.ref a0'), .val (.int (1 : Int32)), .val (.int (4 : Int32))] [])) (fun t k => XS.iinc X0.here hx rfl (hb hby d3_18) rfl (l' := #[.val (.ref a0'), .val (.int (1 : Int32)), .val (.int (4 : Int32))]) rfl k) ?_
          refine own_step (B := s₁.setTop (mkF m 2 #[.val (.ref a0'), .val (.int (1 : Int32)), .val (.int (4 : Int32))] [])) (fun t k => XS.goto X0.here hx rfl (pc0 := 21) (pc' := 2) rfl (hb hby d3_21) (by decide) (by decide) k) ?_
          refine own_step (B := s₁.setTop (mkF m 3 #[.val (.ref a0'), .val (.int (1 : Int32)), .val (.int (4 : Int32))] [(.int (4 : Int32))])) (fun t k => XS.iloadN X0.here hx rfl (hb hby d3_2) rfl k) ?_
          refine own_step (B := s₁.setTop (mkF m 4 #[.val (.ref a0'), .val (.int (1 : Int32)), .val (.int (4 : Int32))] [(.ref a0'), (.int (4 : Int32))])) (fun t k => XS.aloadN X0.here hx rfl (hb hby d3_3) rfl rfl k) ?_
          have Vo_24 := V_a0'
          obtain ⟨cl_24, Ar_24, q_24, S_24, M_24, H_24, G_24⟩ := Vo_24
          refine own_step (B := s₁.setTop (mkF m 5 #[.val (.ref a0'), .val (.int (1 : Int32)), .val (.int (4 : Int32))] [(.int (5 : Int32)), (.int (4 : Int32))])) (fun t k => X0.arraylength hx (by rw [e0]; exact Ar_24.1) (State.isArrayOf_alike hZ.alike Ar_24.2.1) (g := (mkF m 4 #[.val (.ref a0'), .val (.int (1 : Int32)), .val (.int (4 : Int32))] [(.ref a0'), (.int (4 : Int32))])) rfl rfl (hb hby d3_4) t (by rw [len_of S_24 M_24]; exact k)) ?_
          refine own_step (B := s₁.setTop (mkF m 8 #[.val (.ref a0'), .val (.int (1 : Int32)), .val (.int (4 : Int32))] [])) (fun t k => XS.icmpNo X0.here hx rfl (hb hby d3_5) rfl (tlt (by decide)).2.1 k) ?_
          refine own_step (B := s₁.setTop (mkF m 9 #[.val (.ref a0'), .val (.int (1 : Int32)), .val (.int (4 : Int32))] [(.ref a0')])) (fun t k => XS.aloadN X0.here hx rfl (hb hby d3_8) rfl rfl k) ?_
          refine own_step (B := s₁.setTop (mkF m 10 #[.val (.ref a0'), .val (.int (1 : Int32)), .val (.int (4 : Int32))] [(.int (4 : Int32)), (.ref a0')])) (fun t k => XS.iloadN X0.here hx rfl (hb hby d3_9) rfl k) ?_
          have Vo_25 := V_a0'
          obtain ⟨cl_25, Ar_25, q_25, S_25, M_25, H_25, G_25⟩ := Vo_25
          refine own_step (B := s₁.setTop (mkF m 11 #[.val (.ref a0'), .val (.int (1 : Int32)), .val (.int (4 : Int32))] [(.int w4)])) (fun t k => X0.baloadBytes hx (j := (4 : Int32)) (v := (.int w4)) (by rw [e0]; exact Ar_25.1) (State.isArrayOf_alike hZ.alike Ar_25.2.1) Ar_25.2.2 (inb_of S_25 ⟨by decide, by decide⟩) (Has.at H_25 (inb_of S_25 ⟨by decide, by decide⟩) rfl) (g := (mkF m 10 #[.val (.ref a0'), .val (.int (1 : Int32)), .val (.int (4 : Int32))] [(.int (4 : Int32)), (.ref a0')])) rfl rfl (hb hby d3_10) t k) ?_
          refine own_step (B := s₁.setTop (mkF m 13 #[.val (.ref a0'), .val (.int (1 : Int32)), .val (.int (4 : Int32))] [(.int (32 : Int32)), (.int w4)])) (fun t k => XS.bipush X0.here hx rfl (hb hby d3_11) k) ?_
          by_cases hc13_26 : w4 = (32 : Int32)
          · skip
            refine own_step (B := s₁.setTop (mkF m 16 #[.val (.ref a0'), .val (.int (1 : Int32)), .val (.int (4 : Int32))] [])) (fun t k => XS.icmpNo X0.here hx rfl (hb hby d3_13) rfl (teq hc13_26).2 k) ?_
            refine own_step (B := s₁.setTop (mkF m 17 #[.val (.ref a0'), .val (.int (1 : Int32)), .val (.int (4 : Int32))] [(.int (4 : Int32))])) (fun t k => XS.iloadN X0.here hx rfl (hb hby d3_16) rfl k) ?_
            exact own_retI X0 hx hlk Bd.returns (hb hby d3_17) (by decide) (by decide) (by have hh : own_want w0 w1 w2 w3 w4 1 = (4 : Int32) := (by simp [own_want, own_hit, hc13, hc13_20, hc13_23, hc13_26]); exact ⟨by rw [hh], N0, e0⟩)
          · skip
            refine own_step (B := s₁.setTop (mkF m 18 #[.val (.ref a0'), .val (.int (1 : Int32)), .val (.int (4 : Int32))] [])) (fun t k => XS.icmpYes X0.here hx rfl (pc0 := 13) (pc' := 18) rfl (hb hby d3_13) rfl (feq hc13_26).2 (by decide) (by decide) k) ?_
            refine own_step (B := s₁.setTop (mkF m 21 #[.val (.ref a0'), .val (.int (1 : Int32)), .val (.int (5 : Int32))] [])) (fun t k => XS.iinc X0.here hx rfl (hb hby d3_18) rfl (l' := #[.val (.ref a0'), .val (.int (1 : Int32)), .val (.int (5 : Int32))]) rfl k) ?_
            refine own_step (B := s₁.setTop (mkF m 2 #[.val (.ref a0'), .val (.int (1 : Int32)), .val (.int (5 : Int32))] [])) (fun t k => XS.goto X0.here hx rfl (pc0 := 21) (pc' := 2) rfl (hb hby d3_21) (by decide) (by decide) k) ?_
            refine own_step (B := s₁.setTop (mkF m 3 #[.val (.ref a0'), .val (.int (1 : Int32)), .val (.int (5 : Int32))] [(.int (5 : Int32))])) (fun t k => XS.iloadN X0.here hx rfl (hb hby d3_2) rfl k) ?_
            refine own_step (B := s₁.setTop (mkF m 4 #[.val (.ref a0'), .val (.int (1 : Int32)), .val (.int (5 : Int32))] [(.ref a0'), (.int (5 : Int32))])) (fun t k => XS.aloadN X0.here hx rfl (hb hby d3_3) rfl rfl k) ?_
            have Vo_27 := V_a0'
            obtain ⟨cl_27, Ar_27, q_27, S_27, M_27, H_27, G_27⟩ := Vo_27
            refine own_step (B := s₁.setTop (mkF m 5 #[.val (.ref a0'), .val (.int (1 : Int32)), .val (.int (5 : Int32))] [(.int (5 : Int32)), (.int (5 : Int32))])) (fun t k => X0.arraylength hx (by rw [e0]; exact Ar_27.1) (State.isArrayOf_alike hZ.alike Ar_27.2.1) (g := (mkF m 4 #[.val (.ref a0'), .val (.int (1 : Int32)), .val (.int (5 : Int32))] [(.ref a0'), (.int (5 : Int32))])) rfl rfl (hb hby d3_4) t (by rw [len_of S_27 M_27]; exact k)) ?_
            refine own_step (B := s₁.setTop (mkF m 24 #[.val (.ref a0'), .val (.int (1 : Int32)), .val (.int (5 : Int32))] [])) (fun t k => XS.icmpYes X0.here hx rfl (pc0 := 5) (pc' := 24) rfl (hb hby d3_5) rfl (flt (by decide)).2.1 (by decide) (by decide) k) ?_
            refine own_step (B := s₁.setTop (mkF m 25 #[.val (.ref a0'), .val (.int (1 : Int32)), .val (.int (5 : Int32))] [(.int (-1 : Int32))])) (fun t k => XS.iconst X0.here hx rfl (hb hby d3_24) k) ?_
            exact own_retI X0 hx hlk Bd.returns (hb hby d3_25) (by decide) (by decide) (by have hh : own_want w0 w1 w2 w3 w4 1 = (-1 : Int32) := (by simp [own_want, own_hit, hc13, hc13_20, hc13_23, hc13_26]); exact ⟨by rw [hh], N0, e0⟩)
  · skip
    refine own_step (B := s₁.setTop (mkF m 1 #[.val (.ref a0'), .val (.int (2 : Int32)), .unset] [(.int (2 : Int32))])) (fun t k => XS.iloadN X0.here hx rfl (hb hby d3_0) rfl k) ?_
    refine own_step (B := s₁.setTop (mkF m 2 #[.val (.ref a0'), .val (.int (2 : Int32)), .val (.int (2 : Int32))] [])) (fun t k => XS.istoreN X0.here hx rfl (hb hby d3_1) rfl (l' := #[.val (.ref a0'), .val (.int (2 : Int32)), .val (.int (2 : Int32))]) rfl k) ?_
    refine own_step (B := s₁.setTop (mkF m 3 #[.val (.ref a0'), .val (.int (2 : Int32)), .val (.int (2 : Int32))] [(.int (2 : Int32))])) (fun t k => XS.iloadN X0.here hx rfl (hb hby d3_2) rfl k) ?_
    refine own_step (B := s₁.setTop (mkF m 4 #[.val (.ref a0'), .val (.int (2 : Int32)), .val (.int (2 : Int32))] [(.ref a0'), (.int (2 : Int32))])) (fun t k => XS.aloadN X0.here hx rfl (hb hby d3_3) rfl rfl k) ?_
    have Vo_28 := V_a0'
    obtain ⟨cl_28, Ar_28, q_28, S_28, M_28, H_28, G_28⟩ := Vo_28
    refine own_step (B := s₁.setTop (mkF m 5 #[.val (.ref a0'), .val (.int (2 : Int32)), .val (.int (2 : Int32))] [(.int (5 : Int32)), (.int (2 : Int32))])) (fun t k => X0.arraylength hx (by rw [e0]; exact Ar_28.1) (State.isArrayOf_alike hZ.alike Ar_28.2.1) (g := (mkF m 4 #[.val (.ref a0'), .val (.int (2 : Int32)), .val (.int (2 : Int32))] [(.ref a0'), (.int (2 : Int32))])) rfl rfl (hb hby d3_4) t (by rw [len_of S_28 M_28]; exact k)) ?_
    refine own_step (B := s₁.setTop (mkF m 8 #[.val (.ref a0'), .val (.int (2 : Int32)), .val (.int (2 : Int32))] [])) (fun t k => XS.icmpNo X0.here hx rfl (hb hby d3_5) rfl (tlt (by decide)).2.1 k) ?_
    refine own_step (B := s₁.setTop (mkF m 9 #[.val (.ref a0'), .val (.int (2 : Int32)), .val (.int (2 : Int32))] [(.ref a0')])) (fun t k => XS.aloadN X0.here hx rfl (hb hby d3_8) rfl rfl k) ?_
    refine own_step (B := s₁.setTop (mkF m 10 #[.val (.ref a0'), .val (.int (2 : Int32)), .val (.int (2 : Int32))] [(.int (2 : Int32)), (.ref a0')])) (fun t k => XS.iloadN X0.here hx rfl (hb hby d3_9) rfl k) ?_
    have Vo_29 := V_a0'
    obtain ⟨cl_29, Ar_29, q_29, S_29, M_29, H_29, G_29⟩ := Vo_29
    refine own_step (B := s₁.setTop (mkF m 11 #[.val (.ref a0'), .val (.int (2 : Int32)), .val (.int (2 : Int32))] [(.int w2)])) (fun t k => X0.baloadBytes hx (j := (2 : Int32)) (v := (.int w2)) (by rw [e0]; exact Ar_29.1) (State.isArrayOf_alike hZ.alike Ar_29.2.1) Ar_29.2.2 (inb_of S_29 ⟨by decide, by decide⟩) (Has.at H_29 (inb_of S_29 ⟨by decide, by decide⟩) rfl) (g := (mkF m 10 #[.val (.ref a0'), .val (.int (2 : Int32)), .val (.int (2 : Int32))] [(.int (2 : Int32)), (.ref a0')])) rfl rfl (hb hby d3_10) t k) ?_
    refine own_step (B := s₁.setTop (mkF m 13 #[.val (.ref a0'), .val (.int (2 : Int32)), .val (.int (2 : Int32))] [(.int (32 : Int32)), (.int w2)])) (fun t k => XS.bipush X0.here hx rfl (hb hby d3_11) k) ?_
    by_cases hc13 : w2 = (32 : Int32)
    · skip
      refine own_step (B := s₁.setTop (mkF m 16 #[.val (.ref a0'), .val (.int (2 : Int32)), .val (.int (2 : Int32))] [])) (fun t k => XS.icmpNo X0.here hx rfl (hb hby d3_13) rfl (teq hc13).2 k) ?_
      refine own_step (B := s₁.setTop (mkF m 17 #[.val (.ref a0'), .val (.int (2 : Int32)), .val (.int (2 : Int32))] [(.int (2 : Int32))])) (fun t k => XS.iloadN X0.here hx rfl (hb hby d3_16) rfl k) ?_
      exact own_retI X0 hx hlk Bd.returns (hb hby d3_17) (by decide) (by decide) (by have hh : own_want w0 w1 w2 w3 w4 2 = (2 : Int32) := (by simp [own_want, own_hit, hc13]); exact ⟨by rw [hh], N0, e0⟩)
    · skip
      refine own_step (B := s₁.setTop (mkF m 18 #[.val (.ref a0'), .val (.int (2 : Int32)), .val (.int (2 : Int32))] [])) (fun t k => XS.icmpYes X0.here hx rfl (pc0 := 13) (pc' := 18) rfl (hb hby d3_13) rfl (feq hc13).2 (by decide) (by decide) k) ?_
      refine own_step (B := s₁.setTop (mkF m 21 #[.val (.ref a0'), .val (.int (2 : Int32)), .val (.int (3 : Int32))] [])) (fun t k => XS.iinc X0.here hx rfl (hb hby d3_18) rfl (l' := #[.val (.ref a0'), .val (.int (2 : Int32)), .val (.int (3 : Int32))]) rfl k) ?_
      refine own_step (B := s₁.setTop (mkF m 2 #[.val (.ref a0'), .val (.int (2 : Int32)), .val (.int (3 : Int32))] [])) (fun t k => XS.goto X0.here hx rfl (pc0 := 21) (pc' := 2) rfl (hb hby d3_21) (by decide) (by decide) k) ?_
      refine own_step (B := s₁.setTop (mkF m 3 #[.val (.ref a0'), .val (.int (2 : Int32)), .val (.int (3 : Int32))] [(.int (3 : Int32))])) (fun t k => XS.iloadN X0.here hx rfl (hb hby d3_2) rfl k) ?_
      refine own_step (B := s₁.setTop (mkF m 4 #[.val (.ref a0'), .val (.int (2 : Int32)), .val (.int (3 : Int32))] [(.ref a0'), (.int (3 : Int32))])) (fun t k => XS.aloadN X0.here hx rfl (hb hby d3_3) rfl rfl k) ?_
      have Vo_30 := V_a0'
      obtain ⟨cl_30, Ar_30, q_30, S_30, M_30, H_30, G_30⟩ := Vo_30
      refine own_step (B := s₁.setTop (mkF m 5 #[.val (.ref a0'), .val (.int (2 : Int32)), .val (.int (3 : Int32))] [(.int (5 : Int32)), (.int (3 : Int32))])) (fun t k => X0.arraylength hx (by rw [e0]; exact Ar_30.1) (State.isArrayOf_alike hZ.alike Ar_30.2.1) (g := (mkF m 4 #[.val (.ref a0'), .val (.int (2 : Int32)), .val (.int (3 : Int32))] [(.ref a0'), (.int (3 : Int32))])) rfl rfl (hb hby d3_4) t (by rw [len_of S_30 M_30]; exact k)) ?_
      refine own_step (B := s₁.setTop (mkF m 8 #[.val (.ref a0'), .val (.int (2 : Int32)), .val (.int (3 : Int32))] [])) (fun t k => XS.icmpNo X0.here hx rfl (hb hby d3_5) rfl (tlt (by decide)).2.1 k) ?_
      refine own_step (B := s₁.setTop (mkF m 9 #[.val (.ref a0'), .val (.int (2 : Int32)), .val (.int (3 : Int32))] [(.ref a0')])) (fun t k => XS.aloadN X0.here hx rfl (hb hby d3_8) rfl rfl k) ?_
      refine own_step (B := s₁.setTop (mkF m 10 #[.val (.ref a0'), .val (.int (2 : Int32)), .val (.int (3 : Int32))] [(.int (3 : Int32)), (.ref a0')])) (fun t k => XS.iloadN X0.here hx rfl (hb hby d3_9) rfl k) ?_
      have Vo_31 := V_a0'
      obtain ⟨cl_31, Ar_31, q_31, S_31, M_31, H_31, G_31⟩ := Vo_31
      refine own_step (B := s₁.setTop (mkF m 11 #[.val (.ref a0'), .val (.int (2 : Int32)), .val (.int (3 : Int32))] [(.int w3)])) (fun t k => X0.baloadBytes hx (j := (3 : Int32)) (v := (.int w3)) (by rw [e0]; exact Ar_31.1) (State.isArrayOf_alike hZ.alike Ar_31.2.1) Ar_31.2.2 (inb_of S_31 ⟨by decide, by decide⟩) (Has.at H_31 (inb_of S_31 ⟨by decide, by decide⟩) rfl) (g := (mkF m 10 #[.val (.ref a0'), .val (.int (2 : Int32)), .val (.int (3 : Int32))] [(.int (3 : Int32)), (.ref a0')])) rfl rfl (hb hby d3_10) t k) ?_
      refine own_step (B := s₁.setTop (mkF m 13 #[.val (.ref a0'), .val (.int (2 : Int32)), .val (.int (3 : Int32))] [(.int (32 : Int32)), (.int w3)])) (fun t k => XS.bipush X0.here hx rfl (hb hby d3_11) k) ?_
      by_cases hc13_32 : w3 = (32 : Int32)
      · skip
        refine own_step (B := s₁.setTop (mkF m 16 #[.val (.ref a0'), .val (.int (2 : Int32)), .val (.int (3 : Int32))] [])) (fun t k => XS.icmpNo X0.here hx rfl (hb hby d3_13) rfl (teq hc13_32).2 k) ?_
        refine own_step (B := s₁.setTop (mkF m 17 #[.val (.ref a0'), .val (.int (2 : Int32)), .val (.int (3 : Int32))] [(.int (3 : Int32))])) (fun t k => XS.iloadN X0.here hx rfl (hb hby d3_16) rfl k) ?_
        exact own_retI X0 hx hlk Bd.returns (hb hby d3_17) (by decide) (by decide) (by have hh : own_want w0 w1 w2 w3 w4 2 = (3 : Int32) := (by simp [own_want, own_hit, hc13, hc13_32]); exact ⟨by rw [hh], N0, e0⟩)
      · skip
        refine own_step (B := s₁.setTop (mkF m 18 #[.val (.ref a0'), .val (.int (2 : Int32)), .val (.int (3 : Int32))] [])) (fun t k => XS.icmpYes X0.here hx rfl (pc0 := 13) (pc' := 18) rfl (hb hby d3_13) rfl (feq hc13_32).2 (by decide) (by decide) k) ?_
        refine own_step (B := s₁.setTop (mkF m 21 #[.val (.ref a0'), .val (.int (2 : Int32)), .val (.int (4 : Int32))] [])) (fun t k => XS.iinc X0.here hx rfl (hb hby d3_18) rfl (l' := #[.val (.ref a0'), .val (.int (2 : Int32)), .val (.int (4 : Int32))]) rfl k) ?_
        refine own_step (B := s₁.setTop (mkF m 2 #[.val (.ref a0'), .val (.int (2 : Int32)), .val (.int (4 : Int32))] [])) (fun t k => XS.goto X0.here hx rfl (pc0 := 21) (pc' := 2) rfl (hb hby d3_21) (by decide) (by decide) k) ?_
        refine own_step (B := s₁.setTop (mkF m 3 #[.val (.ref a0'), .val (.int (2 : Int32)), .val (.int (4 : Int32))] [(.int (4 : Int32))])) (fun t k => XS.iloadN X0.here hx rfl (hb hby d3_2) rfl k) ?_
        refine own_step (B := s₁.setTop (mkF m 4 #[.val (.ref a0'), .val (.int (2 : Int32)), .val (.int (4 : Int32))] [(.ref a0'), (.int (4 : Int32))])) (fun t k => XS.aloadN X0.here hx rfl (hb hby d3_3) rfl rfl k) ?_
        have Vo_33 := V_a0'
        obtain ⟨cl_33, Ar_33, q_33, S_33, M_33, H_33, G_33⟩ := Vo_33
        refine own_step (B := s₁.setTop (mkF m 5 #[.val (.ref a0'), .val (.int (2 : Int32)), .val (.int (4 : Int32))] [(.int (5 : Int32)), (.int (4 : Int32))])) (fun t k => X0.arraylength hx (by rw [e0]; exact Ar_33.1) (State.isArrayOf_alike hZ.alike Ar_33.2.1) (g := (mkF m 4 #[.val (.ref a0'), .val (.int (2 : Int32)), .val (.int (4 : Int32))] [(.ref a0'), (.int (4 : Int32))])) rfl rfl (hb hby d3_4) t (by rw [len_of S_33 M_33]; exact k)) ?_
        refine own_step (B := s₁.setTop (mkF m 8 #[.val (.ref a0'), .val (.int (2 : Int32)), .val (.int (4 : Int32))] [])) (fun t k => XS.icmpNo X0.here hx rfl (hb hby d3_5) rfl (tlt (by decide)).2.1 k) ?_
        refine own_step (B := s₁.setTop (mkF m 9 #[.val (.ref a0'), .val (.int (2 : Int32)), .val (.int (4 : Int32))] [(.ref a0')])) (fun t k => XS.aloadN X0.here hx rfl (hb hby d3_8) rfl rfl k) ?_
        refine own_step (B := s₁.setTop (mkF m 10 #[.val (.ref a0'), .val (.int (2 : Int32)), .val (.int (4 : Int32))] [(.int (4 : Int32)), (.ref a0')])) (fun t k => XS.iloadN X0.here hx rfl (hb hby d3_9) rfl k) ?_
        have Vo_34 := V_a0'
        obtain ⟨cl_34, Ar_34, q_34, S_34, M_34, H_34, G_34⟩ := Vo_34
        refine own_step (B := s₁.setTop (mkF m 11 #[.val (.ref a0'), .val (.int (2 : Int32)), .val (.int (4 : Int32))] [(.int w4)])) (fun t k => X0.baloadBytes hx (j := (4 : Int32)) (v := (.int w4)) (by rw [e0]; exact Ar_34.1) (State.isArrayOf_alike hZ.alike Ar_34.2.1) Ar_34.2.2 (inb_of S_34 ⟨by decide, by decide⟩) (Has.at H_34 (inb_of S_34 ⟨by decide, by decide⟩) rfl) (g := (mkF m 10 #[.val (.ref a0'), .val (.int (2 : Int32)), .val (.int (4 : Int32))] [(.int (4 : Int32)), (.ref a0')])) rfl rfl (hb hby d3_10) t k) ?_
        refine own_step (B := s₁.setTop (mkF m 13 #[.val (.ref a0'), .val (.int (2 : Int32)), .val (.int (4 : Int32))] [(.int (32 : Int32)), (.int w4)])) (fun t k => XS.bipush X0.here hx rfl (hb hby d3_11) k) ?_
        by_cases hc13_35 : w4 = (32 : Int32)
        · skip
          refine own_step (B := s₁.setTop (mkF m 16 #[.val (.ref a0'), .val (.int (2 : Int32)), .val (.int (4 : Int32))] [])) (fun t k => XS.icmpNo X0.here hx rfl (hb hby d3_13) rfl (teq hc13_35).2 k) ?_
          refine own_step (B := s₁.setTop (mkF m 17 #[.val (.ref a0'), .val (.int (2 : Int32)), .val (.int (4 : Int32))] [(.int (4 : Int32))])) (fun t k => XS.iloadN X0.here hx rfl (hb hby d3_16) rfl k) ?_
          exact own_retI X0 hx hlk Bd.returns (hb hby d3_17) (by decide) (by decide) (by have hh : own_want w0 w1 w2 w3 w4 2 = (4 : Int32) := (by simp [own_want, own_hit, hc13, hc13_32, hc13_35]); exact ⟨by rw [hh], N0, e0⟩)
        · skip
          refine own_step (B := s₁.setTop (mkF m 18 #[.val (.ref a0'), .val (.int (2 : Int32)), .val (.int (4 : Int32))] [])) (fun t k => XS.icmpYes X0.here hx rfl (pc0 := 13) (pc' := 18) rfl (hb hby d3_13) rfl (feq hc13_35).2 (by decide) (by decide) k) ?_
          refine own_step (B := s₁.setTop (mkF m 21 #[.val (.ref a0'), .val (.int (2 : Int32)), .val (.int (5 : Int32))] [])) (fun t k => XS.iinc X0.here hx rfl (hb hby d3_18) rfl (l' := #[.val (.ref a0'), .val (.int (2 : Int32)), .val (.int (5 : Int32))]) rfl k) ?_
          refine own_step (B := s₁.setTop (mkF m 2 #[.val (.ref a0'), .val (.int (2 : Int32)), .val (.int (5 : Int32))] [])) (fun t k => XS.goto X0.here hx rfl (pc0 := 21) (pc' := 2) rfl (hb hby d3_21) (by decide) (by decide) k) ?_
          refine own_step (B := s₁.setTop (mkF m 3 #[.val (.ref a0'), .val (.int (2 : Int32)), .val (.int (5 : Int32))] [(.int (5 : Int32))])) (fun t k => XS.iloadN X0.here hx rfl (hb hby d3_2) rfl k) ?_
          refine own_step (B := s₁.setTop (mkF m 4 #[.val (.ref a0'), .val (.int (2 : Int32)), .val (.int (5 : Int32))] [(.ref a0'), (.int (5 : Int32))])) (fun t k => XS.aloadN X0.here hx rfl (hb hby d3_3) rfl rfl k) ?_
          have Vo_36 := V_a0'
          obtain ⟨cl_36, Ar_36, q_36, S_36, M_36, H_36, G_36⟩ := Vo_36
          refine own_step (B := s₁.setTop (mkF m 5 #[.val (.ref a0'), .val (.int (2 : Int32)), .val (.int (5 : Int32))] [(.int (5 : Int32)), (.int (5 : Int32))])) (fun t k => X0.arraylength hx (by rw [e0]; exact Ar_36.1) (State.isArrayOf_alike hZ.alike Ar_36.2.1) (g := (mkF m 4 #[.val (.ref a0'), .val (.int (2 : Int32)), .val (.int (5 : Int32))] [(.ref a0'), (.int (5 : Int32))])) rfl rfl (hb hby d3_4) t (by rw [len_of S_36 M_36]; exact k)) ?_
          refine own_step (B := s₁.setTop (mkF m 24 #[.val (.ref a0'), .val (.int (2 : Int32)), .val (.int (5 : Int32))] [])) (fun t k => XS.icmpYes X0.here hx rfl (pc0 := 5) (pc' := 24) rfl (hb hby d3_5) rfl (flt (by decide)).2.1 (by decide) (by decide) k) ?_
          refine own_step (B := s₁.setTop (mkF m 25 #[.val (.ref a0'), .val (.int (2 : Int32)), .val (.int (5 : Int32))] [(.int (-1 : Int32))])) (fun t k => XS.iconst X0.here hx rfl (hb hby d3_24) k) ?_
          exact own_retI X0 hx hlk Bd.returns (hb hby d3_25) (by decide) (by decide) (by have hh : own_want w0 w1 w2 w3 w4 2 = (-1 : Int32) := (by simp [own_want, own_hit, hc13, hc13_32, hc13_35]); exact ⟨by rw [hh], N0, e0⟩)
  · skip
    refine own_step (B := s₁.setTop (mkF m 1 #[.val (.ref a0'), .val (.int (3 : Int32)), .unset] [(.int (3 : Int32))])) (fun t k => XS.iloadN X0.here hx rfl (hb hby d3_0) rfl k) ?_
    refine own_step (B := s₁.setTop (mkF m 2 #[.val (.ref a0'), .val (.int (3 : Int32)), .val (.int (3 : Int32))] [])) (fun t k => XS.istoreN X0.here hx rfl (hb hby d3_1) rfl (l' := #[.val (.ref a0'), .val (.int (3 : Int32)), .val (.int (3 : Int32))]) rfl k) ?_
    refine own_step (B := s₁.setTop (mkF m 3 #[.val (.ref a0'), .val (.int (3 : Int32)), .val (.int (3 : Int32))] [(.int (3 : Int32))])) (fun t k => XS.iloadN X0.here hx rfl (hb hby d3_2) rfl k) ?_
    refine own_step (B := s₁.setTop (mkF m 4 #[.val (.ref a0'), .val (.int (3 : Int32)), .val (.int (3 : Int32))] [(.ref a0'), (.int (3 : Int32))])) (fun t k => XS.aloadN X0.here hx rfl (hb hby d3_3) rfl rfl k) ?_
    have Vo_37 := V_a0'
    obtain ⟨cl_37, Ar_37, q_37, S_37, M_37, H_37, G_37⟩ := Vo_37
    refine own_step (B := s₁.setTop (mkF m 5 #[.val (.ref a0'), .val (.int (3 : Int32)), .val (.int (3 : Int32))] [(.int (5 : Int32)), (.int (3 : Int32))])) (fun t k => X0.arraylength hx (by rw [e0]; exact Ar_37.1) (State.isArrayOf_alike hZ.alike Ar_37.2.1) (g := (mkF m 4 #[.val (.ref a0'), .val (.int (3 : Int32)), .val (.int (3 : Int32))] [(.ref a0'), (.int (3 : Int32))])) rfl rfl (hb hby d3_4) t (by rw [len_of S_37 M_37]; exact k)) ?_
    refine own_step (B := s₁.setTop (mkF m 8 #[.val (.ref a0'), .val (.int (3 : Int32)), .val (.int (3 : Int32))] [])) (fun t k => XS.icmpNo X0.here hx rfl (hb hby d3_5) rfl (tlt (by decide)).2.1 k) ?_
    refine own_step (B := s₁.setTop (mkF m 9 #[.val (.ref a0'), .val (.int (3 : Int32)), .val (.int (3 : Int32))] [(.ref a0')])) (fun t k => XS.aloadN X0.here hx rfl (hb hby d3_8) rfl rfl k) ?_
    refine own_step (B := s₁.setTop (mkF m 10 #[.val (.ref a0'), .val (.int (3 : Int32)), .val (.int (3 : Int32))] [(.int (3 : Int32)), (.ref a0')])) (fun t k => XS.iloadN X0.here hx rfl (hb hby d3_9) rfl k) ?_
    have Vo_38 := V_a0'
    obtain ⟨cl_38, Ar_38, q_38, S_38, M_38, H_38, G_38⟩ := Vo_38
    refine own_step (B := s₁.setTop (mkF m 11 #[.val (.ref a0'), .val (.int (3 : Int32)), .val (.int (3 : Int32))] [(.int w3)])) (fun t k => X0.baloadBytes hx (j := (3 : Int32)) (v := (.int w3)) (by rw [e0]; exact Ar_38.1) (State.isArrayOf_alike hZ.alike Ar_38.2.1) Ar_38.2.2 (inb_of S_38 ⟨by decide, by decide⟩) (Has.at H_38 (inb_of S_38 ⟨by decide, by decide⟩) rfl) (g := (mkF m 10 #[.val (.ref a0'), .val (.int (3 : Int32)), .val (.int (3 : Int32))] [(.int (3 : Int32)), (.ref a0')])) rfl rfl (hb hby d3_10) t k) ?_
    refine own_step (B := s₁.setTop (mkF m 13 #[.val (.ref a0'), .val (.int (3 : Int32)), .val (.int (3 : Int32))] [(.int (32 : Int32)), (.int w3)])) (fun t k => XS.bipush X0.here hx rfl (hb hby d3_11) k) ?_
    by_cases hc13 : w3 = (32 : Int32)
    · skip
      refine own_step (B := s₁.setTop (mkF m 16 #[.val (.ref a0'), .val (.int (3 : Int32)), .val (.int (3 : Int32))] [])) (fun t k => XS.icmpNo X0.here hx rfl (hb hby d3_13) rfl (teq hc13).2 k) ?_
      refine own_step (B := s₁.setTop (mkF m 17 #[.val (.ref a0'), .val (.int (3 : Int32)), .val (.int (3 : Int32))] [(.int (3 : Int32))])) (fun t k => XS.iloadN X0.here hx rfl (hb hby d3_16) rfl k) ?_
      exact own_retI X0 hx hlk Bd.returns (hb hby d3_17) (by decide) (by decide) (by have hh : own_want w0 w1 w2 w3 w4 3 = (3 : Int32) := (by simp [own_want, own_hit, hc13]); exact ⟨by rw [hh], N0, e0⟩)
    · skip
      refine own_step (B := s₁.setTop (mkF m 18 #[.val (.ref a0'), .val (.int (3 : Int32)), .val (.int (3 : Int32))] [])) (fun t k => XS.icmpYes X0.here hx rfl (pc0 := 13) (pc' := 18) rfl (hb hby d3_13) rfl (feq hc13).2 (by decide) (by decide) k) ?_
      refine own_step (B := s₁.setTop (mkF m 21 #[.val (.ref a0'), .val (.int (3 : Int32)), .val (.int (4 : Int32))] [])) (fun t k => XS.iinc X0.here hx rfl (hb hby d3_18) rfl (l' := #[.val (.ref a0'), .val (.int (3 : Int32)), .val (.int (4 : Int32))]) rfl k) ?_
      refine own_step (B := s₁.setTop (mkF m 2 #[.val (.ref a0'), .val (.int (3 : Int32)), .val (.int (4 : Int32))] [])) (fun t k => XS.goto X0.here hx rfl (pc0 := 21) (pc' := 2) rfl (hb hby d3_21) (by decide) (by decide) k) ?_
      refine own_step (B := s₁.setTop (mkF m 3 #[.val (.ref a0'), .val (.int (3 : Int32)), .val (.int (4 : Int32))] [(.int (4 : Int32))])) (fun t k => XS.iloadN X0.here hx rfl (hb hby d3_2) rfl k) ?_
      refine own_step (B := s₁.setTop (mkF m 4 #[.val (.ref a0'), .val (.int (3 : Int32)), .val (.int (4 : Int32))] [(.ref a0'), (.int (4 : Int32))])) (fun t k => XS.aloadN X0.here hx rfl (hb hby d3_3) rfl rfl k) ?_
      have Vo_39 := V_a0'
      obtain ⟨cl_39, Ar_39, q_39, S_39, M_39, H_39, G_39⟩ := Vo_39
      refine own_step (B := s₁.setTop (mkF m 5 #[.val (.ref a0'), .val (.int (3 : Int32)), .val (.int (4 : Int32))] [(.int (5 : Int32)), (.int (4 : Int32))])) (fun t k => X0.arraylength hx (by rw [e0]; exact Ar_39.1) (State.isArrayOf_alike hZ.alike Ar_39.2.1) (g := (mkF m 4 #[.val (.ref a0'), .val (.int (3 : Int32)), .val (.int (4 : Int32))] [(.ref a0'), (.int (4 : Int32))])) rfl rfl (hb hby d3_4) t (by rw [len_of S_39 M_39]; exact k)) ?_
      refine own_step (B := s₁.setTop (mkF m 8 #[.val (.ref a0'), .val (.int (3 : Int32)), .val (.int (4 : Int32))] [])) (fun t k => XS.icmpNo X0.here hx rfl (hb hby d3_5) rfl (tlt (by decide)).2.1 k) ?_
      refine own_step (B := s₁.setTop (mkF m 9 #[.val (.ref a0'), .val (.int (3 : Int32)), .val (.int (4 : Int32))] [(.ref a0')])) (fun t k => XS.aloadN X0.here hx rfl (hb hby d3_8) rfl rfl k) ?_
      refine own_step (B := s₁.setTop (mkF m 10 #[.val (.ref a0'), .val (.int (3 : Int32)), .val (.int (4 : Int32))] [(.int (4 : Int32)), (.ref a0')])) (fun t k => XS.iloadN X0.here hx rfl (hb hby d3_9) rfl k) ?_
      have Vo_40 := V_a0'
      obtain ⟨cl_40, Ar_40, q_40, S_40, M_40, H_40, G_40⟩ := Vo_40
      refine own_step (B := s₁.setTop (mkF m 11 #[.val (.ref a0'), .val (.int (3 : Int32)), .val (.int (4 : Int32))] [(.int w4)])) (fun t k => X0.baloadBytes hx (j := (4 : Int32)) (v := (.int w4)) (by rw [e0]; exact Ar_40.1) (State.isArrayOf_alike hZ.alike Ar_40.2.1) Ar_40.2.2 (inb_of S_40 ⟨by decide, by decide⟩) (Has.at H_40 (inb_of S_40 ⟨by decide, by decide⟩) rfl) (g := (mkF m 10 #[.val (.ref a0'), .val (.int (3 : Int32)), .val (.int (4 : Int32))] [(.int (4 : Int32)), (.ref a0')])) rfl rfl (hb hby d3_10) t k) ?_
      refine own_step (B := s₁.setTop (mkF m 13 #[.val (.ref a0'), .val (.int (3 : Int32)), .val (.int (4 : Int32))] [(.int (32 : Int32)), (.int w4)])) (fun t k => XS.bipush X0.here hx rfl (hb hby d3_11) k) ?_
      by_cases hc13_41 : w4 = (32 : Int32)
      · skip
        refine own_step (B := s₁.setTop (mkF m 16 #[.val (.ref a0'), .val (.int (3 : Int32)), .val (.int (4 : Int32))] [])) (fun t k => XS.icmpNo X0.here hx rfl (hb hby d3_13) rfl (teq hc13_41).2 k) ?_
        refine own_step (B := s₁.setTop (mkF m 17 #[.val (.ref a0'), .val (.int (3 : Int32)), .val (.int (4 : Int32))] [(.int (4 : Int32))])) (fun t k => XS.iloadN X0.here hx rfl (hb hby d3_16) rfl k) ?_
        exact own_retI X0 hx hlk Bd.returns (hb hby d3_17) (by decide) (by decide) (by have hh : own_want w0 w1 w2 w3 w4 3 = (4 : Int32) := (by simp [own_want, own_hit, hc13, hc13_41]); exact ⟨by rw [hh], N0, e0⟩)
      · skip
        refine own_step (B := s₁.setTop (mkF m 18 #[.val (.ref a0'), .val (.int (3 : Int32)), .val (.int (4 : Int32))] [])) (fun t k => XS.icmpYes X0.here hx rfl (pc0 := 13) (pc' := 18) rfl (hb hby d3_13) rfl (feq hc13_41).2 (by decide) (by decide) k) ?_
        refine own_step (B := s₁.setTop (mkF m 21 #[.val (.ref a0'), .val (.int (3 : Int32)), .val (.int (5 : Int32))] [])) (fun t k => XS.iinc X0.here hx rfl (hb hby d3_18) rfl (l' := #[.val (.ref a0'), .val (.int (3 : Int32)), .val (.int (5 : Int32))]) rfl k) ?_
        refine own_step (B := s₁.setTop (mkF m 2 #[.val (.ref a0'), .val (.int (3 : Int32)), .val (.int (5 : Int32))] [])) (fun t k => XS.goto X0.here hx rfl (pc0 := 21) (pc' := 2) rfl (hb hby d3_21) (by decide) (by decide) k) ?_
        refine own_step (B := s₁.setTop (mkF m 3 #[.val (.ref a0'), .val (.int (3 : Int32)), .val (.int (5 : Int32))] [(.int (5 : Int32))])) (fun t k => XS.iloadN X0.here hx rfl (hb hby d3_2) rfl k) ?_
        refine own_step (B := s₁.setTop (mkF m 4 #[.val (.ref a0'), .val (.int (3 : Int32)), .val (.int (5 : Int32))] [(.ref a0'), (.int (5 : Int32))])) (fun t k => XS.aloadN X0.here hx rfl (hb hby d3_3) rfl rfl k) ?_
        have Vo_42 := V_a0'
        obtain ⟨cl_42, Ar_42, q_42, S_42, M_42, H_42, G_42⟩ := Vo_42
        refine own_step (B := s₁.setTop (mkF m 5 #[.val (.ref a0'), .val (.int (3 : Int32)), .val (.int (5 : Int32))] [(.int (5 : Int32)), (.int (5 : Int32))])) (fun t k => X0.arraylength hx (by rw [e0]; exact Ar_42.1) (State.isArrayOf_alike hZ.alike Ar_42.2.1) (g := (mkF m 4 #[.val (.ref a0'), .val (.int (3 : Int32)), .val (.int (5 : Int32))] [(.ref a0'), (.int (5 : Int32))])) rfl rfl (hb hby d3_4) t (by rw [len_of S_42 M_42]; exact k)) ?_
        refine own_step (B := s₁.setTop (mkF m 24 #[.val (.ref a0'), .val (.int (3 : Int32)), .val (.int (5 : Int32))] [])) (fun t k => XS.icmpYes X0.here hx rfl (pc0 := 5) (pc' := 24) rfl (hb hby d3_5) rfl (flt (by decide)).2.1 (by decide) (by decide) k) ?_
        refine own_step (B := s₁.setTop (mkF m 25 #[.val (.ref a0'), .val (.int (3 : Int32)), .val (.int (5 : Int32))] [(.int (-1 : Int32))])) (fun t k => XS.iconst X0.here hx rfl (hb hby d3_24) k) ?_
        exact own_retI X0 hx hlk Bd.returns (hb hby d3_25) (by decide) (by decide) (by have hh : own_want w0 w1 w2 w3 w4 3 = (-1 : Int32) := (by simp [own_want, own_hit, hc13, hc13_41]); exact ⟨by rw [hh], N0, e0⟩)
  · skip
    refine own_step (B := s₁.setTop (mkF m 1 #[.val (.ref a0'), .val (.int (4 : Int32)), .unset] [(.int (4 : Int32))])) (fun t k => XS.iloadN X0.here hx rfl (hb hby d3_0) rfl k) ?_
    refine own_step (B := s₁.setTop (mkF m 2 #[.val (.ref a0'), .val (.int (4 : Int32)), .val (.int (4 : Int32))] [])) (fun t k => XS.istoreN X0.here hx rfl (hb hby d3_1) rfl (l' := #[.val (.ref a0'), .val (.int (4 : Int32)), .val (.int (4 : Int32))]) rfl k) ?_
    refine own_step (B := s₁.setTop (mkF m 3 #[.val (.ref a0'), .val (.int (4 : Int32)), .val (.int (4 : Int32))] [(.int (4 : Int32))])) (fun t k => XS.iloadN X0.here hx rfl (hb hby d3_2) rfl k) ?_
    refine own_step (B := s₁.setTop (mkF m 4 #[.val (.ref a0'), .val (.int (4 : Int32)), .val (.int (4 : Int32))] [(.ref a0'), (.int (4 : Int32))])) (fun t k => XS.aloadN X0.here hx rfl (hb hby d3_3) rfl rfl k) ?_
    have Vo_43 := V_a0'
    obtain ⟨cl_43, Ar_43, q_43, S_43, M_43, H_43, G_43⟩ := Vo_43
    refine own_step (B := s₁.setTop (mkF m 5 #[.val (.ref a0'), .val (.int (4 : Int32)), .val (.int (4 : Int32))] [(.int (5 : Int32)), (.int (4 : Int32))])) (fun t k => X0.arraylength hx (by rw [e0]; exact Ar_43.1) (State.isArrayOf_alike hZ.alike Ar_43.2.1) (g := (mkF m 4 #[.val (.ref a0'), .val (.int (4 : Int32)), .val (.int (4 : Int32))] [(.ref a0'), (.int (4 : Int32))])) rfl rfl (hb hby d3_4) t (by rw [len_of S_43 M_43]; exact k)) ?_
    refine own_step (B := s₁.setTop (mkF m 8 #[.val (.ref a0'), .val (.int (4 : Int32)), .val (.int (4 : Int32))] [])) (fun t k => XS.icmpNo X0.here hx rfl (hb hby d3_5) rfl (tlt (by decide)).2.1 k) ?_
    refine own_step (B := s₁.setTop (mkF m 9 #[.val (.ref a0'), .val (.int (4 : Int32)), .val (.int (4 : Int32))] [(.ref a0')])) (fun t k => XS.aloadN X0.here hx rfl (hb hby d3_8) rfl rfl k) ?_
    refine own_step (B := s₁.setTop (mkF m 10 #[.val (.ref a0'), .val (.int (4 : Int32)), .val (.int (4 : Int32))] [(.int (4 : Int32)), (.ref a0')])) (fun t k => XS.iloadN X0.here hx rfl (hb hby d3_9) rfl k) ?_
    have Vo_44 := V_a0'
    obtain ⟨cl_44, Ar_44, q_44, S_44, M_44, H_44, G_44⟩ := Vo_44
    refine own_step (B := s₁.setTop (mkF m 11 #[.val (.ref a0'), .val (.int (4 : Int32)), .val (.int (4 : Int32))] [(.int w4)])) (fun t k => X0.baloadBytes hx (j := (4 : Int32)) (v := (.int w4)) (by rw [e0]; exact Ar_44.1) (State.isArrayOf_alike hZ.alike Ar_44.2.1) Ar_44.2.2 (inb_of S_44 ⟨by decide, by decide⟩) (Has.at H_44 (inb_of S_44 ⟨by decide, by decide⟩) rfl) (g := (mkF m 10 #[.val (.ref a0'), .val (.int (4 : Int32)), .val (.int (4 : Int32))] [(.int (4 : Int32)), (.ref a0')])) rfl rfl (hb hby d3_10) t k) ?_
    refine own_step (B := s₁.setTop (mkF m 13 #[.val (.ref a0'), .val (.int (4 : Int32)), .val (.int (4 : Int32))] [(.int (32 : Int32)), (.int w4)])) (fun t k => XS.bipush X0.here hx rfl (hb hby d3_11) k) ?_
    by_cases hc13 : w4 = (32 : Int32)
    · skip
      refine own_step (B := s₁.setTop (mkF m 16 #[.val (.ref a0'), .val (.int (4 : Int32)), .val (.int (4 : Int32))] [])) (fun t k => XS.icmpNo X0.here hx rfl (hb hby d3_13) rfl (teq hc13).2 k) ?_
      refine own_step (B := s₁.setTop (mkF m 17 #[.val (.ref a0'), .val (.int (4 : Int32)), .val (.int (4 : Int32))] [(.int (4 : Int32))])) (fun t k => XS.iloadN X0.here hx rfl (hb hby d3_16) rfl k) ?_
      exact own_retI X0 hx hlk Bd.returns (hb hby d3_17) (by decide) (by decide) (by have hh : own_want w0 w1 w2 w3 w4 4 = (4 : Int32) := (by simp [own_want, own_hit, hc13]); exact ⟨by rw [hh], N0, e0⟩)
    · skip
      refine own_step (B := s₁.setTop (mkF m 18 #[.val (.ref a0'), .val (.int (4 : Int32)), .val (.int (4 : Int32))] [])) (fun t k => XS.icmpYes X0.here hx rfl (pc0 := 13) (pc' := 18) rfl (hb hby d3_13) rfl (feq hc13).2 (by decide) (by decide) k) ?_
      refine own_step (B := s₁.setTop (mkF m 21 #[.val (.ref a0'), .val (.int (4 : Int32)), .val (.int (5 : Int32))] [])) (fun t k => XS.iinc X0.here hx rfl (hb hby d3_18) rfl (l' := #[.val (.ref a0'), .val (.int (4 : Int32)), .val (.int (5 : Int32))]) rfl k) ?_
      refine own_step (B := s₁.setTop (mkF m 2 #[.val (.ref a0'), .val (.int (4 : Int32)), .val (.int (5 : Int32))] [])) (fun t k => XS.goto X0.here hx rfl (pc0 := 21) (pc' := 2) rfl (hb hby d3_21) (by decide) (by decide) k) ?_
      refine own_step (B := s₁.setTop (mkF m 3 #[.val (.ref a0'), .val (.int (4 : Int32)), .val (.int (5 : Int32))] [(.int (5 : Int32))])) (fun t k => XS.iloadN X0.here hx rfl (hb hby d3_2) rfl k) ?_
      refine own_step (B := s₁.setTop (mkF m 4 #[.val (.ref a0'), .val (.int (4 : Int32)), .val (.int (5 : Int32))] [(.ref a0'), (.int (5 : Int32))])) (fun t k => XS.aloadN X0.here hx rfl (hb hby d3_3) rfl rfl k) ?_
      have Vo_45 := V_a0'
      obtain ⟨cl_45, Ar_45, q_45, S_45, M_45, H_45, G_45⟩ := Vo_45
      refine own_step (B := s₁.setTop (mkF m 5 #[.val (.ref a0'), .val (.int (4 : Int32)), .val (.int (5 : Int32))] [(.int (5 : Int32)), (.int (5 : Int32))])) (fun t k => X0.arraylength hx (by rw [e0]; exact Ar_45.1) (State.isArrayOf_alike hZ.alike Ar_45.2.1) (g := (mkF m 4 #[.val (.ref a0'), .val (.int (4 : Int32)), .val (.int (5 : Int32))] [(.ref a0'), (.int (5 : Int32))])) rfl rfl (hb hby d3_4) t (by rw [len_of S_45 M_45]; exact k)) ?_
      refine own_step (B := s₁.setTop (mkF m 24 #[.val (.ref a0'), .val (.int (4 : Int32)), .val (.int (5 : Int32))] [])) (fun t k => XS.icmpYes X0.here hx rfl (pc0 := 5) (pc' := 24) rfl (hb hby d3_5) rfl (flt (by decide)).2.1 (by decide) (by decide) k) ?_
      refine own_step (B := s₁.setTop (mkF m 25 #[.val (.ref a0'), .val (.int (4 : Int32)), .val (.int (5 : Int32))] [(.int (-1 : Int32))])) (fun t k => XS.iconst X0.here hx rfl (hb hby d3_24) k) ?_
      exact own_retI X0 hx hlk Bd.returns (hb hby d3_25) (by decide) (by decide) (by have hh : own_want w0 w1 w2 w3 w4 4 = (-1 : Int32) := (by simp [own_want, own_hit, hc13]); exact ⟨by rw [hh], N0, e0⟩)
  · skip
    refine own_step (B := s₁.setTop (mkF m 1 #[.val (.ref a0'), .val (.int (5 : Int32)), .unset] [(.int (5 : Int32))])) (fun t k => XS.iloadN X0.here hx rfl (hb hby d3_0) rfl k) ?_
    refine own_step (B := s₁.setTop (mkF m 2 #[.val (.ref a0'), .val (.int (5 : Int32)), .val (.int (5 : Int32))] [])) (fun t k => XS.istoreN X0.here hx rfl (hb hby d3_1) rfl (l' := #[.val (.ref a0'), .val (.int (5 : Int32)), .val (.int (5 : Int32))]) rfl k) ?_
    refine own_step (B := s₁.setTop (mkF m 3 #[.val (.ref a0'), .val (.int (5 : Int32)), .val (.int (5 : Int32))] [(.int (5 : Int32))])) (fun t k => XS.iloadN X0.here hx rfl (hb hby d3_2) rfl k) ?_
    refine own_step (B := s₁.setTop (mkF m 4 #[.val (.ref a0'), .val (.int (5 : Int32)), .val (.int (5 : Int32))] [(.ref a0'), (.int (5 : Int32))])) (fun t k => XS.aloadN X0.here hx rfl (hb hby d3_3) rfl rfl k) ?_
    have Vo_46 := V_a0'
    obtain ⟨cl_46, Ar_46, q_46, S_46, M_46, H_46, G_46⟩ := Vo_46
    refine own_step (B := s₁.setTop (mkF m 5 #[.val (.ref a0'), .val (.int (5 : Int32)), .val (.int (5 : Int32))] [(.int (5 : Int32)), (.int (5 : Int32))])) (fun t k => X0.arraylength hx (by rw [e0]; exact Ar_46.1) (State.isArrayOf_alike hZ.alike Ar_46.2.1) (g := (mkF m 4 #[.val (.ref a0'), .val (.int (5 : Int32)), .val (.int (5 : Int32))] [(.ref a0'), (.int (5 : Int32))])) rfl rfl (hb hby d3_4) t (by rw [len_of S_46 M_46]; exact k)) ?_
    refine own_step (B := s₁.setTop (mkF m 24 #[.val (.ref a0'), .val (.int (5 : Int32)), .val (.int (5 : Int32))] [])) (fun t k => XS.icmpYes X0.here hx rfl (pc0 := 5) (pc' := 24) rfl (hb hby d3_5) rfl (flt (by decide)).2.1 (by decide) (by decide) k) ?_
    refine own_step (B := s₁.setTop (mkF m 25 #[.val (.ref a0'), .val (.int (5 : Int32)), .val (.int (5 : Int32))] [(.int (-1 : Int32))])) (fun t k => XS.iconst X0.here hx rfl (hb hby d3_24) k) ?_
    exact own_retI X0 hx hlk Bd.returns (hb hby d3_25) (by decide) (by decide) (by have hh : own_want w0 w1 w2 w3 w4 5 = (-1 : Int32) := (by simp [own_want, own_hit]); exact ⟨by rw [hh], N0, e0⟩)
  · skip
    refine own_step (B := s₁.setTop (mkF m 1 #[.val (.ref a0'), .val (.int (6 : Int32)), .unset] [(.int (6 : Int32))])) (fun t k => XS.iloadN X0.here hx rfl (hb hby d3_0) rfl k) ?_
    refine own_step (B := s₁.setTop (mkF m 2 #[.val (.ref a0'), .val (.int (6 : Int32)), .val (.int (6 : Int32))] [])) (fun t k => XS.istoreN X0.here hx rfl (hb hby d3_1) rfl (l' := #[.val (.ref a0'), .val (.int (6 : Int32)), .val (.int (6 : Int32))]) rfl k) ?_
    refine own_step (B := s₁.setTop (mkF m 3 #[.val (.ref a0'), .val (.int (6 : Int32)), .val (.int (6 : Int32))] [(.int (6 : Int32))])) (fun t k => XS.iloadN X0.here hx rfl (hb hby d3_2) rfl k) ?_
    refine own_step (B := s₁.setTop (mkF m 4 #[.val (.ref a0'), .val (.int (6 : Int32)), .val (.int (6 : Int32))] [(.ref a0'), (.int (6 : Int32))])) (fun t k => XS.aloadN X0.here hx rfl (hb hby d3_3) rfl rfl k) ?_
    have Vo_47 := V_a0'
    obtain ⟨cl_47, Ar_47, q_47, S_47, M_47, H_47, G_47⟩ := Vo_47
    refine own_step (B := s₁.setTop (mkF m 5 #[.val (.ref a0'), .val (.int (6 : Int32)), .val (.int (6 : Int32))] [(.int (5 : Int32)), (.int (6 : Int32))])) (fun t k => X0.arraylength hx (by rw [e0]; exact Ar_47.1) (State.isArrayOf_alike hZ.alike Ar_47.2.1) (g := (mkF m 4 #[.val (.ref a0'), .val (.int (6 : Int32)), .val (.int (6 : Int32))] [(.ref a0'), (.int (6 : Int32))])) rfl rfl (hb hby d3_4) t (by rw [len_of S_47 M_47]; exact k)) ?_
    refine own_step (B := s₁.setTop (mkF m 24 #[.val (.ref a0'), .val (.int (6 : Int32)), .val (.int (6 : Int32))] [])) (fun t k => XS.icmpYes X0.here hx rfl (pc0 := 5) (pc' := 24) rfl (hb hby d3_5) rfl (flt (by decide)).2.1 (by decide) (by decide) k) ?_
    refine own_step (B := s₁.setTop (mkF m 25 #[.val (.ref a0'), .val (.int (6 : Int32)), .val (.int (6 : Int32))] [(.int (-1 : Int32))])) (fun t k => XS.iconst X0.here hx rfl (hb hby d3_24) k) ?_
    exact own_retI X0 hx hlk Bd.returns (hb hby d3_25) (by decide) (by decide) (by have hh : own_want w0 w1 w2 w3 w4 6 = (-1 : Int32) := (by simp [own_want, own_hit]); exact ⟨by rw [hh], N0, e0⟩)
  · skip
    refine own_step (B := s₁.setTop (mkF m 1 #[.val (.ref a0'), .val (.int (7 : Int32)), .unset] [(.int (7 : Int32))])) (fun t k => XS.iloadN X0.here hx rfl (hb hby d3_0) rfl k) ?_
    refine own_step (B := s₁.setTop (mkF m 2 #[.val (.ref a0'), .val (.int (7 : Int32)), .val (.int (7 : Int32))] [])) (fun t k => XS.istoreN X0.here hx rfl (hb hby d3_1) rfl (l' := #[.val (.ref a0'), .val (.int (7 : Int32)), .val (.int (7 : Int32))]) rfl k) ?_
    refine own_step (B := s₁.setTop (mkF m 3 #[.val (.ref a0'), .val (.int (7 : Int32)), .val (.int (7 : Int32))] [(.int (7 : Int32))])) (fun t k => XS.iloadN X0.here hx rfl (hb hby d3_2) rfl k) ?_
    refine own_step (B := s₁.setTop (mkF m 4 #[.val (.ref a0'), .val (.int (7 : Int32)), .val (.int (7 : Int32))] [(.ref a0'), (.int (7 : Int32))])) (fun t k => XS.aloadN X0.here hx rfl (hb hby d3_3) rfl rfl k) ?_
    have Vo_48 := V_a0'
    obtain ⟨cl_48, Ar_48, q_48, S_48, M_48, H_48, G_48⟩ := Vo_48
    refine own_step (B := s₁.setTop (mkF m 5 #[.val (.ref a0'), .val (.int (7 : Int32)), .val (.int (7 : Int32))] [(.int (5 : Int32)), (.int (7 : Int32))])) (fun t k => X0.arraylength hx (by rw [e0]; exact Ar_48.1) (State.isArrayOf_alike hZ.alike Ar_48.2.1) (g := (mkF m 4 #[.val (.ref a0'), .val (.int (7 : Int32)), .val (.int (7 : Int32))] [(.ref a0'), (.int (7 : Int32))])) rfl rfl (hb hby d3_4) t (by rw [len_of S_48 M_48]; exact k)) ?_
    refine own_step (B := s₁.setTop (mkF m 24 #[.val (.ref a0'), .val (.int (7 : Int32)), .val (.int (7 : Int32))] [])) (fun t k => XS.icmpYes X0.here hx rfl (pc0 := 5) (pc' := 24) rfl (hb hby d3_5) rfl (flt (by decide)).2.1 (by decide) (by decide) k) ?_
    refine own_step (B := s₁.setTop (mkF m 25 #[.val (.ref a0'), .val (.int (7 : Int32)), .val (.int (7 : Int32))] [(.int (-1 : Int32))])) (fun t k => XS.iconst X0.here hx rfl (hb hby d3_24) k) ?_
    exact own_retI X0 hx hlk Bd.returns (hb hby d3_25) (by decide) (by decide) (by have hh : own_want w0 w1 w2 w3 w4 7 = (-1 : Int32) := (by simp [own_want, own_hit]); exact ⟨by rw [hh], N0, e0⟩)
theorem ef_rme (m : MethodId) (x0 : Addr) (x1 : Int32) : entryFrame m #[(.ref x0), (.int x1)] 3 = mkF m 0 #[.val (.ref x0), .val (.int x1), .unset] [] := by first | (simp [entryFrame, mkF, argsToLocals, Value.category]; done) | rfl
def QQ_rme (Z : State) (a0' : Addr) (p1 : Int32) (kk : ClassId) (h0 : Heap) (n0 : Nat) (v : Option Value) (h : Heap) (L : List Loc) : Prop := v = some (.int (-1)) ∧ Fr n0 L ∧ h = h0
set_option maxRecDepth 65536 in
set_option maxHeartbeats 40000000 in
theorem rme (l : Launch) (Z : State) (a0 : Array Value) (hw : ∀ d ∈ tables_1, d.before a0 Z = true) (ws : List Jvm.Cond) (a0' : Addr) (p1 : Int32) (kk : ClassId) (h0 : Heap) (n0 : Nat) (Z0 : n0 ≤ h0.size) (hf : ¬ (p1 < (0 : Int32))) (V_a0' : Arv Z h0 a0' kk .byte (0 : Int32) [] (.int (0 : Int32))) :
    MetFree l (⟨"com/example/loomwire/loomwire/chat/Chat", "indexOfSpace", "([BI)I"⟩ : MethodName) (head1 (Jvm.Cond.code (⟨"com/example/loomwire/loomwire/chat/Chat", "indexOfSpace", "([BI)I"⟩ : MethodName) prog_17_method_14_code 3 (some .int) :: ws) ({ frames := 0, cells := 0, slots := 0, locals := 0 } : Room)) (fun a U => a = #[(.ref a0'), (.int p1)] ∧ Z.Warmed39 U.vm ∧ U.heap = h0) (fun _ _ _ _ _ => True) (fun _ U o U' => ∃ v L, o = .returned v ∧ (QQ_rme Z a0' p1 kk h0 n0) v U'.heap L ∧ FrameEnd U o U' L ({ frames := 0, cells := 0, slots := 0, locals := 0 } : Room).cells ({ frames := 0, cells := 0, slots := 0, locals := 0 } : Room).slots) := by
  refine MetFree.of_bodySF (plainFor_of_name pn_com_example_loomwire_loomwire_chat_Chat) hisR ?_
  intro p e s m args below meth c s₁ Bd hml0 hP hK
  obtain ⟨rfl, hZ, hh⟩ := hP
  have hx := Bd.exec
  have hby := Bd.bytes
  have hlk : meth.locks = false := BodyLoose.notSynchronized Bd
  have hml : c.maxLocals = 3 := hml0
  have hown : s.vm.findClass "com/example/loomwire/loomwire/chat/Chat" = some m.cls := findClass_of_methodNamed Bd.named
  have hnm := (name_of_methodNamed Bd.named Bd.method).1
  have X0 : Stand p l e ({ frames := 0, cells := 0, slots := 0, locals := 0 } : Room) s m #[(.ref a0'), (.int p1)] below meth c s₁ [] 0 0 := Stand.of_body Bd
  have e0 : s₁.heap = h0 := by rw [← hh, Bd.state]; rfl
  have N0 := Fr.nil n0
  show own_G p.tables e below s (QQ_rme Z a0' p1 kk h0 n0) ({ frames := 0, cells := 0, slots := 0, locals := 0 } : Room).cells ({ frames := 0, cells := 0, slots := 0, locals := 0 } : Room).slots (s₁.setTop (entryFrame m #[(.ref a0'), (.int p1)] 3))
  refine own_step (B := s₁.setTop (mkF m 0 #[.val (.ref a0'), .val (.int p1), .unset] [])) (fun t k => castTop (ef_rme m a0' p1) k) ?_
  refine own_step (B := s₁.setTop (mkF m 1 #[.val (.ref a0'), .val (.int p1), .unset] [(.int p1)])) (fun t k => XS.iloadN X0.here hx rfl (hb hby d3_0) rfl k) ?_
  refine own_step (B := s₁.setTop (mkF m 2 #[.val (.ref a0'), .val (.int p1), .val (.int p1)] [])) (fun t k => XS.istoreN X0.here hx rfl (hb hby d3_1) rfl (l' := #[.val (.ref a0'), .val (.int p1), .val (.int p1)]) rfl k) ?_
  refine own_step (B := s₁.setTop (mkF m 3 #[.val (.ref a0'), .val (.int p1), .val (.int p1)] [(.int p1)])) (fun t k => XS.iloadN X0.here hx rfl (hb hby d3_2) rfl k) ?_
  refine own_step (B := s₁.setTop (mkF m 4 #[.val (.ref a0'), .val (.int p1), .val (.int p1)] [(.ref a0'), (.int p1)])) (fun t k => XS.aloadN X0.here hx rfl (hb hby d3_3) rfl rfl k) ?_
  have Vo_1 := V_a0'
  obtain ⟨cl_1, Ar_1, q_1, S_1, M_1, H_1, G_1⟩ := Vo_1
  refine own_step (B := s₁.setTop (mkF m 5 #[.val (.ref a0'), .val (.int p1), .val (.int p1)] [(.int (0 : Int32)), (.int p1)])) (fun t k => X0.arraylength hx (by rw [e0]; exact Ar_1.1) (State.isArrayOf_alike hZ.alike Ar_1.2.1) (g := (mkF m 4 #[.val (.ref a0'), .val (.int p1), .val (.int p1)] [(.ref a0'), (.int p1)])) rfl rfl (hb hby d3_4) t (by rw [len_of S_1 M_1]; exact k)) ?_
  refine own_step (B := s₁.setTop (mkF m 24 #[.val (.ref a0'), .val (.int p1), .val (.int p1)] [])) (fun t k => XS.icmpYes X0.here hx rfl (pc0 := 5) (pc' := 24) rfl (hb hby d3_5) rfl (flt hf).2.1 (by decide) (by decide) k) ?_
  refine own_step (B := s₁.setTop (mkF m 25 #[.val (.ref a0'), .val (.int p1), .val (.int p1)] [(.int (-1 : Int32))])) (fun t k => XS.iconst X0.here hx rfl (hb hby d3_24) k) ?_
  exact own_retI X0 hx hlk Bd.returns (hb hby d3_25) (by decide) (by decide) (by exact ⟨rfl, N0, e0⟩)
theorem ef_rm0 (m : MethodId) (x0 : Int64) (x1 : Int32) (x2 : Int32) : entryFrame m #[(.long x0), (.int x1), (.int x2)] maxLocals = mkF m 0 #[.val (.long x0), .second, .val (.int x1), .val (.int x2), .unset, .unset, .unset, .unset, .unset, .unset] [] := by first | (simp [entryFrame, mkF, argsToLocals, Value.category, maxLocals]; done) | rfl
def QQ_rm0 (Z : State) (q0 : Int64) (p1 : Int32) (p2 : Int32)  (h0 : Heap) (n0 : Nat) (v : Option Value) (h : Heap) (L : List Loc) : Prop := v = some (.int 1) ∧ Fr n0 L
set_option maxRecDepth 65536 in
set_option maxHeartbeats 40000000 in
theorem rm0 (l : Launch) (Z : State) (a0 : Array Value) (hw : ∀ d ∈ tables_1, d.before a0 Z = true) (ws : List Jvm.Cond) (q0 : Int64) (p1 : Int32) (p2 : Int32)  (h0 : Heap) (n0 : Nat) (Z0 : n0 ≤ h0.size)  :
    MetFree l x (head1 (Jvm.Cond.code x code maxLocals ret :: ws) room_1) (fun a U => a = #[(.long q0), (.int p1), (.int p2)] ∧ Z.Warmed39 U.vm ∧ U.heap = h0) (fun _ _ _ _ _ => True) (fun _ U o U' => ∃ v L, o = .returned v ∧ (QQ_rm0 Z q0 p1 p2 h0 n0) v U'.heap L ∧ FrameEnd U o U' L room_1.cells room_1.slots) := by
  refine MetFree.of_bodySF (plainFor_of_name pn_com_example_loomwire_loomwire_chat_ChatIndexOfSpacePinLaw) hisR ?_
  intro p e s m args below meth c s₁ Bd hml0 hP hK
  obtain ⟨rfl, hZ, hh⟩ := hP
  have hx := Bd.exec
  have hby := Bd.bytes
  have hlk : meth.locks = false := BodyLoose.notSynchronized Bd
  have hml : c.maxLocals = 10 := hml0
  have hown : s.vm.findClass "com/example/loomwire/loomwire/chat/ChatIndexOfSpacePinLaw" = some m.cls := findClass_of_methodNamed Bd.named
  have hnm := (name_of_methodNamed Bd.named Bd.method).1
  have X0 : Stand p l e room_1 s m #[(.long q0), (.int p1), (.int p2)] below meth c s₁ [] 0 0 := Stand.of_body Bd
  have e0 : s₁.heap = h0 := by rw [← hh, Bd.state]; rfl
  have N0 := Fr.nil n0
  show own_G p.tables e below s (QQ_rm0 Z q0 p1 p2 h0 n0) room_1.cells room_1.slots (s₁.setTop (entryFrame m #[(.long q0), (.int p1), (.int p2)] maxLocals))
  refine own_step (B := s₁.setTop (mkF m 0 #[.val (.long q0), .second, .val (.int p1), .val (.int p2), .unset, .unset, .unset, .unset, .unset, .unset] [])) (fun t k => castTop (ef_rm0 m q0 p1 p2) k) ?_
  refine own_step (B := s₁.setTop (mkF m 1 #[.val (.long q0), .second, .val (.int p1), .val (.int p2), .unset, .unset, .unset, .unset, .unset, .unset] [(.int (5 : Int32))])) (fun t k => XS.iconst X0.here hx rfl (hb hby at_0) k) ?_
  obtain ⟨T1, h1, k1, X1, e1, E1, A1, st1⟩ := newP X0 hx hZ (hw _ (List.mem_of_getElem? (i := 0) rfl)) e0 (g := (mkF m 1 #[.val (.long q0), .second, .val (.int p1), .val (.int p2), .unset, .unset, .unset, .unset, .unset, .unset] [(.int (5 : Int32))])) rfl (hb hby at_1) rfl (by decide) (cap := 5) (by decide) (by decide) (by decide) (by decide)
  obtain ⟨pp, g1⟩ : ∃ z, z = h0.size := ⟨_, rfl⟩
  rw [← g1] at A1 st1
  have g_pp : n0 ≤ pp := Nat.le_trans Z0 (Nat.le_of_eq g1.symm)
  have Z0 := Nat.le_trans Z0 E1.1
  have K_pp := A1
  have V_pp : Arv Z h1 pp k1 .byte (5 : Int32) [(.int (0 : Int32)), (.int (0 : Int32)), (.int (0 : Int32)), (.int (0 : Int32)), (.int (0 : Int32))] (.int (0 : Int32)) := (Arv.new A1 (by decide)).pad (pad_rep [] (.int (0 : Int32)) 5)
  refine own_step (B := T1.setTop (mkF m 3 #[.val (.long q0), .second, .val (.int p1), .val (.int p2), .unset, .unset, .unset, .unset, .unset, .unset] [(.ref pp)])) (fun t k => st1 t k) ?_
  refine own_step (B := T1.setTop (mkF m 5 #[.val (.long q0), .second, .val (.int p1), .val (.int p2), .val (.ref pp), .unset, .unset, .unset, .unset, .unset] [])) (fun t k => XS.astore X1.here hx rfl (hb hby at_3) rfl rfl (l' := #[.val (.long q0), .second, .val (.int p1), .val (.int p2), .val (.ref pp), .unset, .unset, .unset, .unset, .unset]) rfl k) ?_
  refine own_step (B := T1.setTop (mkF m 7 #[.val (.long q0), .second, .val (.int p1), .val (.int p2), .val (.ref pp), .unset, .unset, .unset, .unset, .unset] [(.ref pp)])) (fun t k => XS.aload X1.here hx rfl (hb hby at_5) rfl rfl k) ?_
  refine own_step (B := T1.setTop (mkF m 8 #[.val (.long q0), .second, .val (.int p1), .val (.int p2), .val (.ref pp), .unset, .unset, .unset, .unset, .unset] [(.int (0 : Int32)), (.ref pp)])) (fun t k => XS.iconst X1.here hx rfl (hb hby at_7) k) ?_
  refine own_step (B := T1.setTop (mkF m 9 #[.val (.long q0), .second, .val (.int p1), .val (.int p2), .val (.ref pp), .unset, .unset, .unset, .unset, .unset] [(.int p1), (.int (0 : Int32)), (.ref pp)])) (fun t k => XS.iloadN X1.here hx rfl (hb hby at_8) rfl k) ?_
  refine own_step (B := T1.setTop (mkF m 10 #[.val (.long q0), .second, .val (.int p1), .val (.int p2), .val (.ref pp), .unset, .unset, .unset, .unset, .unset] [(.long q0), (.int p1), (.int (0 : Int32)), (.ref pp)])) (fun t k => XS.lloadN X1.here hx rfl (hb hby at_9) rfl k) ?_
  refine own_step (B := T1.setTop (mkF m 11 #[.val (.long q0), .second, .val (.int p1), .val (.int p2), .val (.ref pp), .unset, .unset, .unset, .unset, .unset] [(.int (0 : Int32)), (.long q0), (.int p1), (.int (0 : Int32)), (.ref pp)])) (fun t k => XS.iconst X1.here hx rfl (hb hby at_10) k) ?_
  obtain ⟨_, _, ⟨T2, L2, k2, n2⟩, -, X2, ⟨Lc2, hQ2, l2, y2, z2⟩, st2⟩ := Jvm.LawKit.callS X1 hx (y := (⟨"com/example/loomwire/loomwire/chat/ChatIndexOfSpacePinLaw", "pick", "(IJI)B"⟩ : MethodName)) hown (mvT hZ (hw _ (List.mem_of_getElem? (i := 1) rfl))) (mvT hZ (hw _ (List.mem_of_getElem? (i := 2) rfl))) (mvT hZ (hw _ (List.mem_of_getElem? (i := 3) rfl))) (mvT hZ (hw _ (List.mem_of_getElem? (i := 4) rfl))) (by decide) (backOf (W := 2) (rm1 l Z a0 hw [] p1 q0 (0 : Int32)  h1 n0 Z0 ) hZ (hw _ (List.mem_of_getElem? (i := 4) rfl)) (hw _ (List.mem_of_getElem? (i := 3) rfl)) (by decide) (by decide)) (g := (mkF m 11 #[.val (.long q0), .second, .val (.int p1), .val (.int p2), .val (.ref pp), .unset, .unset, .unset, .unset, .unset] [(.int (0 : Int32)), (.long q0), (.int p1), (.int (0 : Int32)), (.ref pp)])) rfl (by rw [hml]; rfl) (argsL := [(.int p1), (.long q0), (.int (0 : Int32))]) (rest := [(.int (0 : Int32)), (.ref pp)]) (lenOf pd_0 rfl) rfl (by show 2 * 0 + _ ≤ _; exact Nat.le_of_eq rfl) (hb hby at_11) (fun _ _ => ⟨rfl, e1, (by decide : 1 + 0 ≤ _), (by decide : 5 + 0 ≤ _)⟩)
  dsimp only [Pt.U, Pt.locs, Pt.cells, Pt.slots] at X2 l2 y2 z2 st2 hQ2
  subst l2 y2 z2
  obtain ⟨v0, rfl, N2q, e_p0⟩ := hQ2
  have N0 := Fr.app N0 N2q
  refine own_step (B := T2.setTop (mkF m 14 #[.val (.long q0), .second, .val (.int p1), .val (.int p2), .val (.ref pp), .unset, .unset, .unset, .unset, .unset] [(.int v0), (.int (0 : Int32)), (.ref pp)])) (fun t k => st2 t k) ?_
  have Vo_3 := V_pp
  obtain ⟨cl_3, Ar_3, q_3, S_3, M_3, H_3, G_3⟩ := Vo_3
  have hin4 : ¬ ((0 : Int32) < 0 ∨ cl_3.slots.size ≤ ((0 : Int32)).toNatClampNeg) := inb_of S_3 ⟨by decide, by decide⟩
  obtain ⟨T4, h4, X4, e4, W4, st4⟩ := stB X2 hx hZ e_p0 Ar_3 (j := (0 : Int32)) hin4 (g := (mkF m 14 #[.val (.long q0), .second, .val (.int p1), .val (.int p2), .val (.ref pp), .unset, .unset, .unset, .unset, .unset] [(.int v0), (.int (0 : Int32)), (.ref pp)])) rfl rfl (hb hby at_14)
  have Z0 := Nat.le_trans Z0 (Keep.of_wr W4).1
  have N0 := Fr.snoc X4 N0 g_pp
  have V_pp := Arv.set Ar_3 q_3 S_3 M_3 H_3 G_3 (fits_nar_byte _) W4 0 rfl (Nat.le_of_ble_eq_true rfl)
  change Arv Z h4 pp k1 .byte (5 : Int32) [(.int (nar .byte v0)), (.int (0 : Int32)), (.int (0 : Int32)), (.int (0 : Int32)), (.int (0 : Int32))] (.int (0 : Int32)) at V_pp
  refine own_step (B := T4.setTop (mkF m 15 #[.val (.long q0), .second, .val (.int p1), .val (.int p2), .val (.ref pp), .unset, .unset, .unset, .unset, .unset] [])) (fun t k => st4 t k) ?_
  refine own_step (B := T4.setTop (mkF m 17 #[.val (.long q0), .second, .val (.int p1), .val (.int p2), .val (.ref pp), .unset, .unset, .unset, .unset, .unset] [(.ref pp)])) (fun t k => XS.aload X4.here hx rfl (hb hby at_15) rfl rfl k) ?_
  refine own_step (B := T4.setTop (mkF m 18 #[.val (.long q0), .second, .val (.int p1), .val (.int p2), .val (.ref pp), .unset, .unset, .unset, .unset, .unset] [(.int (1 : Int32)), (.ref pp)])) (fun t k => XS.iconst X4.here hx rfl (hb hby at_17) k) ?_
  refine own_step (B := T4.setTop (mkF m 19 #[.val (.long q0), .second, .val (.int p1), .val (.int p2), .val (.ref pp), .unset, .unset, .unset, .unset, .unset] [(.int p1), (.int (1 : Int32)), (.ref pp)])) (fun t k => XS.iloadN X4.here hx rfl (hb hby at_18) rfl k) ?_
  refine own_step (B := T4.setTop (mkF m 20 #[.val (.long q0), .second, .val (.int p1), .val (.int p2), .val (.ref pp), .unset, .unset, .unset, .unset, .unset] [(.long q0), (.int p1), (.int (1 : Int32)), (.ref pp)])) (fun t k => XS.lloadN X4.here hx rfl (hb hby at_19) rfl k) ?_
  refine own_step (B := T4.setTop (mkF m 21 #[.val (.long q0), .second, .val (.int p1), .val (.int p2), .val (.ref pp), .unset, .unset, .unset, .unset, .unset] [(.int (1 : Int32)), (.long q0), (.int p1), (.int (1 : Int32)), (.ref pp)])) (fun t k => XS.iconst X4.here hx rfl (hb hby at_20) k) ?_
  obtain ⟨_, _, ⟨T5, L5, k5, n5⟩, -, X5, ⟨Lc5, hQ5, l5, y5, z5⟩, st5⟩ := Jvm.LawKit.callS X4 hx (y := (⟨"com/example/loomwire/loomwire/chat/ChatIndexOfSpacePinLaw", "pick", "(IJI)B"⟩ : MethodName)) hown (mvT hZ (hw _ (List.mem_of_getElem? (i := 1) rfl))) (mvT hZ (hw _ (List.mem_of_getElem? (i := 2) rfl))) (mvT hZ (hw _ (List.mem_of_getElem? (i := 3) rfl))) (mvT hZ (hw _ (List.mem_of_getElem? (i := 4) rfl))) (by decide) (backOf (W := 2) (rm1 l Z a0 hw [] p1 q0 (1 : Int32)  h4 n0 Z0 ) hZ (hw _ (List.mem_of_getElem? (i := 4) rfl)) (hw _ (List.mem_of_getElem? (i := 3) rfl)) (by decide) (by decide)) (g := (mkF m 21 #[.val (.long q0), .second, .val (.int p1), .val (.int p2), .val (.ref pp), .unset, .unset, .unset, .unset, .unset] [(.int (1 : Int32)), (.long q0), (.int p1), (.int (1 : Int32)), (.ref pp)])) rfl (by rw [hml]; rfl) (argsL := [(.int p1), (.long q0), (.int (1 : Int32))]) (rest := [(.int (1 : Int32)), (.ref pp)]) (lenOf pd_0 rfl) rfl (by show 2 * 0 + _ ≤ _; exact Nat.le_of_eq rfl) (hb hby at_21) (fun _ _ => ⟨rfl, e4, (by decide : 1 + 0 ≤ _), (by decide : 5 + 0 ≤ _)⟩)
  dsimp only [Pt.U, Pt.locs, Pt.cells, Pt.slots] at X5 l5 y5 z5 st5 hQ5
  subst l5 y5 z5
  obtain ⟨v1, rfl, N5q, e_p1⟩ := hQ5
  have N0 := Fr.app N0 N5q
  refine own_step (B := T5.setTop (mkF m 24 #[.val (.long q0), .second, .val (.int p1), .val (.int p2), .val (.ref pp), .unset, .unset, .unset, .unset, .unset] [(.int v1), (.int (1 : Int32)), (.ref pp)])) (fun t k => st5 t k) ?_
  have Vo_6 := V_pp
  obtain ⟨cl_6, Ar_6, q_6, S_6, M_6, H_6, G_6⟩ := Vo_6
  have hin7 : ¬ ((1 : Int32) < 0 ∨ cl_6.slots.size ≤ ((1 : Int32)).toNatClampNeg) := inb_of S_6 ⟨by decide, by decide⟩
  obtain ⟨T7, h7, X7, e7, W7, st7⟩ := stB X5 hx hZ e_p1 Ar_6 (j := (1 : Int32)) hin7 (g := (mkF m 24 #[.val (.long q0), .second, .val (.int p1), .val (.int p2), .val (.ref pp), .unset, .unset, .unset, .unset, .unset] [(.int v1), (.int (1 : Int32)), (.ref pp)])) rfl rfl (hb hby at_24)
  have Z0 := Nat.le_trans Z0 (Keep.of_wr W7).1
  have N0 := Fr.snoc X7 N0 g_pp
  have V_pp := Arv.set Ar_6 q_6 S_6 M_6 H_6 G_6 (fits_nar_byte _) W7 1 rfl (Nat.le_of_ble_eq_true rfl)
  change Arv Z h7 pp k1 .byte (5 : Int32) [(.int (nar .byte v0)), (.int (nar .byte v1)), (.int (0 : Int32)), (.int (0 : Int32)), (.int (0 : Int32))] (.int (0 : Int32)) at V_pp
  refine own_step (B := T7.setTop (mkF m 25 #[.val (.long q0), .second, .val (.int p1), .val (.int p2), .val (.ref pp), .unset, .unset, .unset, .unset, .unset] [])) (fun t k => st7 t k) ?_
  refine own_step (B := T7.setTop (mkF m 27 #[.val (.long q0), .second, .val (.int p1), .val (.int p2), .val (.ref pp), .unset, .unset, .unset, .unset, .unset] [(.ref pp)])) (fun t k => XS.aload X7.here hx rfl (hb hby at_25) rfl rfl k) ?_
  refine own_step (B := T7.setTop (mkF m 28 #[.val (.long q0), .second, .val (.int p1), .val (.int p2), .val (.ref pp), .unset, .unset, .unset, .unset, .unset] [(.int (2 : Int32)), (.ref pp)])) (fun t k => XS.iconst X7.here hx rfl (hb hby at_27) k) ?_
  refine own_step (B := T7.setTop (mkF m 29 #[.val (.long q0), .second, .val (.int p1), .val (.int p2), .val (.ref pp), .unset, .unset, .unset, .unset, .unset] [(.int p1), (.int (2 : Int32)), (.ref pp)])) (fun t k => XS.iloadN X7.here hx rfl (hb hby at_28) rfl k) ?_
  refine own_step (B := T7.setTop (mkF m 30 #[.val (.long q0), .second, .val (.int p1), .val (.int p2), .val (.ref pp), .unset, .unset, .unset, .unset, .unset] [(.long q0), (.int p1), (.int (2 : Int32)), (.ref pp)])) (fun t k => XS.lloadN X7.here hx rfl (hb hby at_29) rfl k) ?_
  refine own_step (B := T7.setTop (mkF m 31 #[.val (.long q0), .second, .val (.int p1), .val (.int p2), .val (.ref pp), .unset, .unset, .unset, .unset, .unset] [(.int (2 : Int32)), (.long q0), (.int p1), (.int (2 : Int32)), (.ref pp)])) (fun t k => XS.iconst X7.here hx rfl (hb hby at_30) k) ?_
  obtain ⟨_, _, ⟨T8, L8, k8, n8⟩, -, X8, ⟨Lc8, hQ8, l8, y8, z8⟩, st8⟩ := Jvm.LawKit.callS X7 hx (y := (⟨"com/example/loomwire/loomwire/chat/ChatIndexOfSpacePinLaw", "pick", "(IJI)B"⟩ : MethodName)) hown (mvT hZ (hw _ (List.mem_of_getElem? (i := 1) rfl))) (mvT hZ (hw _ (List.mem_of_getElem? (i := 2) rfl))) (mvT hZ (hw _ (List.mem_of_getElem? (i := 3) rfl))) (mvT hZ (hw _ (List.mem_of_getElem? (i := 4) rfl))) (by decide) (backOf (W := 2) (rm1 l Z a0 hw [] p1 q0 (2 : Int32)  h7 n0 Z0 ) hZ (hw _ (List.mem_of_getElem? (i := 4) rfl)) (hw _ (List.mem_of_getElem? (i := 3) rfl)) (by decide) (by decide)) (g := (mkF m 31 #[.val (.long q0), .second, .val (.int p1), .val (.int p2), .val (.ref pp), .unset, .unset, .unset, .unset, .unset] [(.int (2 : Int32)), (.long q0), (.int p1), (.int (2 : Int32)), (.ref pp)])) rfl (by rw [hml]; rfl) (argsL := [(.int p1), (.long q0), (.int (2 : Int32))]) (rest := [(.int (2 : Int32)), (.ref pp)]) (lenOf pd_0 rfl) rfl (by show 2 * 0 + _ ≤ _; exact Nat.le_of_eq rfl) (hb hby at_31) (fun _ _ => ⟨rfl, e7, (by decide : 1 + 0 ≤ _), (by decide : 5 + 0 ≤ _)⟩)
  dsimp only [Pt.U, Pt.locs, Pt.cells, Pt.slots] at X8 l8 y8 z8 st8 hQ8
  subst l8 y8 z8
  obtain ⟨v2, rfl, N8q, e_p2⟩ := hQ8
  have N0 := Fr.app N0 N8q
  refine own_step (B := T8.setTop (mkF m 34 #[.val (.long q0), .second, .val (.int p1), .val (.int p2), .val (.ref pp), .unset, .unset, .unset, .unset, .unset] [(.int v2), (.int (2 : Int32)), (.ref pp)])) (fun t k => st8 t k) ?_
  have Vo_9 := V_pp
  obtain ⟨cl_9, Ar_9, q_9, S_9, M_9, H_9, G_9⟩ := Vo_9
  have hin10 : ¬ ((2 : Int32) < 0 ∨ cl_9.slots.size ≤ ((2 : Int32)).toNatClampNeg) := inb_of S_9 ⟨by decide, by decide⟩
  obtain ⟨T10, h10, X10, e10, W10, st10⟩ := stB X8 hx hZ e_p2 Ar_9 (j := (2 : Int32)) hin10 (g := (mkF m 34 #[.val (.long q0), .second, .val (.int p1), .val (.int p2), .val (.ref pp), .unset, .unset, .unset, .unset, .unset] [(.int v2), (.int (2 : Int32)), (.ref pp)])) rfl rfl (hb hby at_34)
  have Z0 := Nat.le_trans Z0 (Keep.of_wr W10).1
  have N0 := Fr.snoc X10 N0 g_pp
  have V_pp := Arv.set Ar_9 q_9 S_9 M_9 H_9 G_9 (fits_nar_byte _) W10 2 rfl (Nat.le_of_ble_eq_true rfl)
  change Arv Z h10 pp k1 .byte (5 : Int32) [(.int (nar .byte v0)), (.int (nar .byte v1)), (.int (nar .byte v2)), (.int (0 : Int32)), (.int (0 : Int32))] (.int (0 : Int32)) at V_pp
  refine own_step (B := T10.setTop (mkF m 35 #[.val (.long q0), .second, .val (.int p1), .val (.int p2), .val (.ref pp), .unset, .unset, .unset, .unset, .unset] [])) (fun t k => st10 t k) ?_
  refine own_step (B := T10.setTop (mkF m 37 #[.val (.long q0), .second, .val (.int p1), .val (.int p2), .val (.ref pp), .unset, .unset, .unset, .unset, .unset] [(.ref pp)])) (fun t k => XS.aload X10.here hx rfl (hb hby at_35) rfl rfl k) ?_
  refine own_step (B := T10.setTop (mkF m 38 #[.val (.long q0), .second, .val (.int p1), .val (.int p2), .val (.ref pp), .unset, .unset, .unset, .unset, .unset] [(.int (3 : Int32)), (.ref pp)])) (fun t k => XS.iconst X10.here hx rfl (hb hby at_37) k) ?_
  refine own_step (B := T10.setTop (mkF m 39 #[.val (.long q0), .second, .val (.int p1), .val (.int p2), .val (.ref pp), .unset, .unset, .unset, .unset, .unset] [(.int p1), (.int (3 : Int32)), (.ref pp)])) (fun t k => XS.iloadN X10.here hx rfl (hb hby at_38) rfl k) ?_
  refine own_step (B := T10.setTop (mkF m 40 #[.val (.long q0), .second, .val (.int p1), .val (.int p2), .val (.ref pp), .unset, .unset, .unset, .unset, .unset] [(.long q0), (.int p1), (.int (3 : Int32)), (.ref pp)])) (fun t k => XS.lloadN X10.here hx rfl (hb hby at_39) rfl k) ?_
  refine own_step (B := T10.setTop (mkF m 41 #[.val (.long q0), .second, .val (.int p1), .val (.int p2), .val (.ref pp), .unset, .unset, .unset, .unset, .unset] [(.int (3 : Int32)), (.long q0), (.int p1), (.int (3 : Int32)), (.ref pp)])) (fun t k => XS.iconst X10.here hx rfl (hb hby at_40) k) ?_
  obtain ⟨_, _, ⟨T11, L11, k11, n11⟩, -, X11, ⟨Lc11, hQ11, l11, y11, z11⟩, st11⟩ := Jvm.LawKit.callS X10 hx (y := (⟨"com/example/loomwire/loomwire/chat/ChatIndexOfSpacePinLaw", "pick", "(IJI)B"⟩ : MethodName)) hown (mvT hZ (hw _ (List.mem_of_getElem? (i := 1) rfl))) (mvT hZ (hw _ (List.mem_of_getElem? (i := 2) rfl))) (mvT hZ (hw _ (List.mem_of_getElem? (i := 3) rfl))) (mvT hZ (hw _ (List.mem_of_getElem? (i := 4) rfl))) (by decide) (backOf (W := 2) (rm1 l Z a0 hw [] p1 q0 (3 : Int32)  h10 n0 Z0 ) hZ (hw _ (List.mem_of_getElem? (i := 4) rfl)) (hw _ (List.mem_of_getElem? (i := 3) rfl)) (by decide) (by decide)) (g := (mkF m 41 #[.val (.long q0), .second, .val (.int p1), .val (.int p2), .val (.ref pp), .unset, .unset, .unset, .unset, .unset] [(.int (3 : Int32)), (.long q0), (.int p1), (.int (3 : Int32)), (.ref pp)])) rfl (by rw [hml]; rfl) (argsL := [(.int p1), (.long q0), (.int (3 : Int32))]) (rest := [(.int (3 : Int32)), (.ref pp)]) (lenOf pd_0 rfl) rfl (by show 2 * 0 + _ ≤ _; exact Nat.le_of_eq rfl) (hb hby at_41) (fun _ _ => ⟨rfl, e10, (by decide : 1 + 0 ≤ _), (by decide : 5 + 0 ≤ _)⟩)
  dsimp only [Pt.U, Pt.locs, Pt.cells, Pt.slots] at X11 l11 y11 z11 st11 hQ11
  subst l11 y11 z11
  obtain ⟨v3, rfl, N11q, e_p3⟩ := hQ11
  have N0 := Fr.app N0 N11q
  refine own_step (B := T11.setTop (mkF m 44 #[.val (.long q0), .second, .val (.int p1), .val (.int p2), .val (.ref pp), .unset, .unset, .unset, .unset, .unset] [(.int v3), (.int (3 : Int32)), (.ref pp)])) (fun t k => st11 t k) ?_
  have Vo_12 := V_pp
  obtain ⟨cl_12, Ar_12, q_12, S_12, M_12, H_12, G_12⟩ := Vo_12
  have hin13 : ¬ ((3 : Int32) < 0 ∨ cl_12.slots.size ≤ ((3 : Int32)).toNatClampNeg) := inb_of S_12 ⟨by decide, by decide⟩
  obtain ⟨T13, h13, X13, e13, W13, st13⟩ := stB X11 hx hZ e_p3 Ar_12 (j := (3 : Int32)) hin13 (g := (mkF m 44 #[.val (.long q0), .second, .val (.int p1), .val (.int p2), .val (.ref pp), .unset, .unset, .unset, .unset, .unset] [(.int v3), (.int (3 : Int32)), (.ref pp)])) rfl rfl (hb hby at_44)
  have Z0 := Nat.le_trans Z0 (Keep.of_wr W13).1
  have N0 := Fr.snoc X13 N0 g_pp
  have V_pp := Arv.set Ar_12 q_12 S_12 M_12 H_12 G_12 (fits_nar_byte _) W13 3 rfl (Nat.le_of_ble_eq_true rfl)
  change Arv Z h13 pp k1 .byte (5 : Int32) [(.int (nar .byte v0)), (.int (nar .byte v1)), (.int (nar .byte v2)), (.int (nar .byte v3)), (.int (0 : Int32))] (.int (0 : Int32)) at V_pp
  refine own_step (B := T13.setTop (mkF m 45 #[.val (.long q0), .second, .val (.int p1), .val (.int p2), .val (.ref pp), .unset, .unset, .unset, .unset, .unset] [])) (fun t k => st13 t k) ?_
  refine own_step (B := T13.setTop (mkF m 47 #[.val (.long q0), .second, .val (.int p1), .val (.int p2), .val (.ref pp), .unset, .unset, .unset, .unset, .unset] [(.ref pp)])) (fun t k => XS.aload X13.here hx rfl (hb hby at_45) rfl rfl k) ?_
  refine own_step (B := T13.setTop (mkF m 48 #[.val (.long q0), .second, .val (.int p1), .val (.int p2), .val (.ref pp), .unset, .unset, .unset, .unset, .unset] [(.int (4 : Int32)), (.ref pp)])) (fun t k => XS.iconst X13.here hx rfl (hb hby at_47) k) ?_
  refine own_step (B := T13.setTop (mkF m 49 #[.val (.long q0), .second, .val (.int p1), .val (.int p2), .val (.ref pp), .unset, .unset, .unset, .unset, .unset] [(.int p1), (.int (4 : Int32)), (.ref pp)])) (fun t k => XS.iloadN X13.here hx rfl (hb hby at_48) rfl k) ?_
  refine own_step (B := T13.setTop (mkF m 50 #[.val (.long q0), .second, .val (.int p1), .val (.int p2), .val (.ref pp), .unset, .unset, .unset, .unset, .unset] [(.long q0), (.int p1), (.int (4 : Int32)), (.ref pp)])) (fun t k => XS.lloadN X13.here hx rfl (hb hby at_49) rfl k) ?_
  refine own_step (B := T13.setTop (mkF m 51 #[.val (.long q0), .second, .val (.int p1), .val (.int p2), .val (.ref pp), .unset, .unset, .unset, .unset, .unset] [(.int (4 : Int32)), (.long q0), (.int p1), (.int (4 : Int32)), (.ref pp)])) (fun t k => XS.iconst X13.here hx rfl (hb hby at_50) k) ?_
  obtain ⟨_, _, ⟨T14, L14, k14, n14⟩, -, X14, ⟨Lc14, hQ14, l14, y14, z14⟩, st14⟩ := Jvm.LawKit.callS X13 hx (y := (⟨"com/example/loomwire/loomwire/chat/ChatIndexOfSpacePinLaw", "pick", "(IJI)B"⟩ : MethodName)) hown (mvT hZ (hw _ (List.mem_of_getElem? (i := 1) rfl))) (mvT hZ (hw _ (List.mem_of_getElem? (i := 2) rfl))) (mvT hZ (hw _ (List.mem_of_getElem? (i := 3) rfl))) (mvT hZ (hw _ (List.mem_of_getElem? (i := 4) rfl))) (by decide) (backOf (W := 2) (rm1 l Z a0 hw [] p1 q0 (4 : Int32)  h13 n0 Z0 ) hZ (hw _ (List.mem_of_getElem? (i := 4) rfl)) (hw _ (List.mem_of_getElem? (i := 3) rfl)) (by decide) (by decide)) (g := (mkF m 51 #[.val (.long q0), .second, .val (.int p1), .val (.int p2), .val (.ref pp), .unset, .unset, .unset, .unset, .unset] [(.int (4 : Int32)), (.long q0), (.int p1), (.int (4 : Int32)), (.ref pp)])) rfl (by rw [hml]; rfl) (argsL := [(.int p1), (.long q0), (.int (4 : Int32))]) (rest := [(.int (4 : Int32)), (.ref pp)]) (lenOf pd_0 rfl) rfl (by show 2 * 0 + _ ≤ _; exact Nat.le_of_eq rfl) (hb hby at_51) (fun _ _ => ⟨rfl, e13, (by decide : 1 + 0 ≤ _), (by decide : 5 + 0 ≤ _)⟩)
  dsimp only [Pt.U, Pt.locs, Pt.cells, Pt.slots] at X14 l14 y14 z14 st14 hQ14
  subst l14 y14 z14
  obtain ⟨v4, rfl, N14q, e_p4⟩ := hQ14
  have N0 := Fr.app N0 N14q
  refine own_step (B := T14.setTop (mkF m 54 #[.val (.long q0), .second, .val (.int p1), .val (.int p2), .val (.ref pp), .unset, .unset, .unset, .unset, .unset] [(.int v4), (.int (4 : Int32)), (.ref pp)])) (fun t k => st14 t k) ?_
  have Vo_15 := V_pp
  obtain ⟨cl_15, Ar_15, q_15, S_15, M_15, H_15, G_15⟩ := Vo_15
  have hin16 : ¬ ((4 : Int32) < 0 ∨ cl_15.slots.size ≤ ((4 : Int32)).toNatClampNeg) := inb_of S_15 ⟨by decide, by decide⟩
  obtain ⟨T16, h16, X16, e16, W16, st16⟩ := stB X14 hx hZ e_p4 Ar_15 (j := (4 : Int32)) hin16 (g := (mkF m 54 #[.val (.long q0), .second, .val (.int p1), .val (.int p2), .val (.ref pp), .unset, .unset, .unset, .unset, .unset] [(.int v4), (.int (4 : Int32)), (.ref pp)])) rfl rfl (hb hby at_54)
  have Z0 := Nat.le_trans Z0 (Keep.of_wr W16).1
  have N0 := Fr.snoc X16 N0 g_pp
  have V_pp := Arv.set Ar_15 q_15 S_15 M_15 H_15 G_15 (fits_nar_byte _) W16 4 rfl (Nat.le_of_ble_eq_true rfl)
  change Arv Z h16 pp k1 .byte (5 : Int32) [(.int (nar .byte v0)), (.int (nar .byte v1)), (.int (nar .byte v2)), (.int (nar .byte v3)), (.int (nar .byte v4))] (.int (0 : Int32)) at V_pp
  refine own_step (B := T16.setTop (mkF m 55 #[.val (.long q0), .second, .val (.int p1), .val (.int p2), .val (.ref pp), .unset, .unset, .unset, .unset, .unset] [])) (fun t k => st16 t k) ?_
  refine own_step (B := T16.setTop (mkF m 56 #[.val (.long q0), .second, .val (.int p1), .val (.int p2), .val (.ref pp), .unset, .unset, .unset, .unset, .unset] [(.int (0 : Int32))])) (fun t k => XS.iconst X16.here hx rfl (hb hby at_55) k) ?_
  obtain ⟨T17, h17, k17, X17, e17, E17, A17, st17⟩ := newP X16 hx hZ (hw _ (List.mem_of_getElem? (i := 0) rfl)) e16 (g := (mkF m 56 #[.val (.long q0), .second, .val (.int p1), .val (.int p2), .val (.ref pp), .unset, .unset, .unset, .unset, .unset] [(.int (0 : Int32))])) rfl (hb hby at_56) rfl (by decide) (cap := 0) (by decide) (by decide) (by decide) (by decide)
  obtain ⟨ee, g17⟩ : ∃ z, z = h16.size := ⟨_, rfl⟩
  rw [← g17] at A17 st17
  have g_ee : n0 ≤ ee := Nat.le_trans Z0 (Nat.le_of_eq g17.symm)
  have ne_pp_ee : pp ≠ ee := Nat.ne_of_lt (Nat.lt_of_lt_of_le V_pp.lt (Nat.le_of_eq g17.symm))
  have V_pp := V_pp.ext E17
  have Z0 := Nat.le_trans Z0 E17.1
  have K_ee := A17
  have V_ee : Arv Z h17 ee k17 .byte (0 : Int32) [] (.int (0 : Int32)) := (Arv.new A17 (by decide)).pad (pad_rep [] (.int (0 : Int32)) 0)
  refine own_step (B := T17.setTop (mkF m 58 #[.val (.long q0), .second, .val (.int p1), .val (.int p2), .val (.ref pp), .unset, .unset, .unset, .unset, .unset] [(.ref ee)])) (fun t k => st17 t k) ?_
  refine own_step (B := T17.setTop (mkF m 60 #[.val (.long q0), .second, .val (.int p1), .val (.int p2), .val (.ref pp), .val (.ref ee), .unset, .unset, .unset, .unset] [])) (fun t k => XS.astore X17.here hx rfl (hb hby at_58) rfl rfl (l' := #[.val (.long q0), .second, .val (.int p1), .val (.int p2), .val (.ref pp), .val (.ref ee), .unset, .unset, .unset, .unset]) rfl k) ?_
  refine own_step (B := T17.setTop (mkF m 61 #[.val (.long q0), .second, .val (.int p1), .val (.int p2), .val (.ref pp), .val (.ref ee), .unset, .unset, .unset, .unset] [(.int p2)])) (fun t k => XS.iloadN X17.here hx rfl (hb hby at_60) rfl k) ?_
  refine own_step (B := T17.setTop (mkF m 63 #[.val (.long q0), .second, .val (.int p1), .val (.int p2), .val (.ref pp), .val (.ref ee), .unset, .unset, .unset, .unset] [(.int (7 : Int32)), (.int p2)])) (fun t k => XS.bipush X17.here hx rfl (hb hby at_61) k) ?_
  refine own_step (B := T17.setTop (mkF m 64 #[.val (.long q0), .second, .val (.int p1), .val (.int p2), .val (.ref pp), .val (.ref ee), .unset, .unset, .unset, .unset] [(.int (p2 &&& (7 : Int32)))])) (fun t k => XS.iand X17.here hx rfl (hb hby at_63) rfl k) ?_
  obtain ⟨fr, e_fr⟩ : ∃ z, z = (p2 &&& (7 : Int32)) := ⟨_, rfl⟩
  rw [← e_fr]
  refine own_step (B := T17.setTop (mkF m 66 #[.val (.long q0), .second, .val (.int p1), .val (.int p2), .val (.ref pp), .val (.ref ee), .val (.int fr), .unset, .unset, .unset] [])) (fun t k => XS.istore X17.here hx rfl (hb hby at_64) rfl (l' := #[.val (.long q0), .second, .val (.int p1), .val (.int p2), .val (.ref pp), .val (.ref ee), .val (.int fr), .unset, .unset, .unset]) rfl k) ?_
  have hf8 : fr = 0 ∨ fr = 1 ∨ fr = 2 ∨ fr = 3 ∨ fr = 4 ∨ fr = 5 ∨ fr = 6 ∨ fr = 7 := by rw [e_fr]; exact own_and7 p2
  have hf0 : ¬ (fr < (0 : Int32)) := by rcases hf8 with q | q | q | q | q | q | q | q <;> rw [q] <;> decide
  refine own_step (B := T17.setTop (mkF m 68 #[.val (.long q0), .second, .val (.int p1), .val (.int p2), .val (.ref pp), .val (.ref ee), .val (.int fr), .unset, .unset, .unset] [(.ref pp)])) (fun t k => XS.aload X17.here hx rfl (hb hby at_66) rfl rfl k) ?_
  refine own_step (B := T17.setTop (mkF m 69 #[.val (.long q0), .second, .val (.int p1), .val (.int p2), .val (.ref pp), .val (.ref ee), .val (.int fr), .unset, .unset, .unset] [(.int (0 : Int32)), (.ref pp)])) (fun t k => XS.iconst X17.here hx rfl (hb hby at_68) k) ?_
  refine own_step (B := T17.setTop (mkF m 71 #[.val (.long q0), .second, .val (.int p1), .val (.int p2), .val (.ref pp), .val (.ref ee), .val (.int fr), .unset, .unset, .unset] [(.int fr), (.int (0 : Int32)), (.ref pp)])) (fun t k => XS.iload X17.here hx rfl (hb hby at_69) rfl k) ?_
  obtain ⟨_, _, ⟨T18, L18, k18, n18⟩, -, X18, ⟨Lc18, hQ18, l18, y18, z18⟩, st18⟩ := Jvm.LawKit.callS X17 hx (y := (⟨"com/example/loomwire/loomwire/chat/ChatIndexOfSpacePinLaw", "hit", "([BII)Z"⟩ : MethodName)) hown (mvT hZ (hw _ (List.mem_of_getElem? (i := 5) rfl))) (mvT hZ (hw _ (List.mem_of_getElem? (i := 6) rfl))) (mvT hZ (hw _ (List.mem_of_getElem? (i := 3) rfl))) (mvT hZ (hw _ (List.mem_of_getElem? (i := 7) rfl))) (by decide) (backOf (W := 0) (rmh0 l Z a0 hw [] pp fr _ _ _ _ _ _ h17 n0 Z0 V_pp) hZ (hw _ (List.mem_of_getElem? (i := 7) rfl)) (hw _ (List.mem_of_getElem? (i := 3) rfl)) (by decide) (by decide)) (g := (mkF m 71 #[.val (.long q0), .second, .val (.int p1), .val (.int p2), .val (.ref pp), .val (.ref ee), .val (.int fr), .unset, .unset, .unset] [(.int fr), (.int (0 : Int32)), (.ref pp)])) rfl (by rw [hml]; rfl) (argsL := [(.ref pp), (.int (0 : Int32)), (.int fr)]) (rest := []) (lenOf pd_1 rfl) rfl (by show 2 * 0 + _ ≤ _; exact Nat.le_of_eq rfl) (hb hby at_71) (fun _ _ => ⟨rfl, e17, (by decide : 2 + 0 ≤ _), (by decide : 5 + 0 ≤ _)⟩)
  dsimp only [Pt.U, Pt.locs, Pt.cells, Pt.slots] at X18 l18 y18 z18 st18 hQ18
  subst l18 y18 z18
  obtain ⟨rfl, N18q, e18⟩ := hQ18
  have N0 := Fr.app N0 N18q
  refine own_step (B := T18.setTop (mkF m 74 #[.val (.long q0), .second, .val (.int p1), .val (.int p2), .val (.ref pp), .val (.ref ee), .val (.int fr), .unset, .unset, .unset] [(.int (own_hit (nar .byte v0) (0 : Int32) fr))])) (fun t k => st18 t k) ?_
  have J19 : (∀ (T' : State) (ls' : List Loc), Stand p l e room_1 s m #[(.long q0), (.int p1), (.int p2)] below meth c T' ls' 2 5 → T'.heap = h17 → Fr n0 ls' → own_G p.tables e below s (QQ_rm0 Z q0 p1 p2 h0 n0) room_1.cells room_1.slots (T'.setTop (mkF m 154 #[.val (.long q0), .second, .val (.int p1), .val (.int p2), .val (.ref pp), .val (.ref ee), .val (.int fr), .val (.int (if (own_hit (nar .byte v0) (0 : Int32) fr) = (0 : Int32) then (if (own_hit (nar .byte v1) (1 : Int32) fr) = (0 : Int32) then (if (own_hit (nar .byte v2) (2 : Int32) fr) = (0 : Int32) then (if (own_hit (nar .byte v3) (3 : Int32) fr) = (0 : Int32) then (if (own_hit (nar .byte v4) (4 : Int32) fr) = (0 : Int32) then (-1 : Int32) else (4 : Int32)) else (3 : Int32)) else (2 : Int32)) else (1 : Int32)) else (0 : Int32))), .unset, .unset] []))) → own_G p.tables e below s (QQ_rm0 Z q0 p1 p2 h0 n0) room_1.cells room_1.slots (T18.setTop (mkF m 74 #[.val (.long q0), .second, .val (.int p1), .val (.int p2), .val (.ref pp), .val (.ref ee), .val (.int fr), .unset, .unset, .unset] [(.int (own_hit (nar .byte v0) (0 : Int32) fr))])) := by
    intro hJ
    by_cases hc74 : (own_hit (nar .byte v0) (0 : Int32) fr) = (0 : Int32)
    · skip
      refine own_step (B := T18.setTop (mkF m 83 #[.val (.long q0), .second, .val (.int p1), .val (.int p2), .val (.ref pp), .val (.ref ee), .val (.int fr), .unset, .unset, .unset] [])) (fun t k => XS.ifYes X18.here hx rfl (pc0 := 74) (pc' := 83) rfl (hb hby at_74) rfl ((if0 _ _).trans (teq hc74).1) (by decide) (by decide) k) ?_
      refine own_step (B := T18.setTop (mkF m 85 #[.val (.long q0), .second, .val (.int p1), .val (.int p2), .val (.ref pp), .val (.ref ee), .val (.int fr), .unset, .unset, .unset] [(.ref pp)])) (fun t k => XS.aload X18.here hx rfl (hb hby at_83) rfl rfl k) ?_
      refine own_step (B := T18.setTop (mkF m 86 #[.val (.long q0), .second, .val (.int p1), .val (.int p2), .val (.ref pp), .val (.ref ee), .val (.int fr), .unset, .unset, .unset] [(.int (1 : Int32)), (.ref pp)])) (fun t k => XS.iconst X18.here hx rfl (hb hby at_85) k) ?_
      refine own_step (B := T18.setTop (mkF m 88 #[.val (.long q0), .second, .val (.int p1), .val (.int p2), .val (.ref pp), .val (.ref ee), .val (.int fr), .unset, .unset, .unset] [(.int fr), (.int (1 : Int32)), (.ref pp)])) (fun t k => XS.iload X18.here hx rfl (hb hby at_86) rfl k) ?_
      obtain ⟨_, _, ⟨T20, L20, k20, n20⟩, -, X20, ⟨Lc20, hQ20, l20, y20, z20⟩, st20⟩ := Jvm.LawKit.callS X18 hx (y := (⟨"com/example/loomwire/loomwire/chat/ChatIndexOfSpacePinLaw", "hit", "([BII)Z"⟩ : MethodName)) hown (mvT hZ (hw _ (List.mem_of_getElem? (i := 5) rfl))) (mvT hZ (hw _ (List.mem_of_getElem? (i := 6) rfl))) (mvT hZ (hw _ (List.mem_of_getElem? (i := 3) rfl))) (mvT hZ (hw _ (List.mem_of_getElem? (i := 7) rfl))) (by decide) (backOf (W := 0) (rmh1 l Z a0 hw [] pp fr _ _ _ _ _ _ h17 n0 Z0 V_pp) hZ (hw _ (List.mem_of_getElem? (i := 7) rfl)) (hw _ (List.mem_of_getElem? (i := 3) rfl)) (by decide) (by decide)) (g := (mkF m 88 #[.val (.long q0), .second, .val (.int p1), .val (.int p2), .val (.ref pp), .val (.ref ee), .val (.int fr), .unset, .unset, .unset] [(.int fr), (.int (1 : Int32)), (.ref pp)])) rfl (by rw [hml]; rfl) (argsL := [(.ref pp), (.int (1 : Int32)), (.int fr)]) (rest := []) (lenOf pd_1 rfl) rfl (by show 2 * 0 + _ ≤ _; exact Nat.le_of_eq rfl) (hb hby at_88) (fun _ _ => ⟨rfl, e18, (by decide : 2 + 0 ≤ _), (by decide : 5 + 0 ≤ _)⟩)
      dsimp only [Pt.U, Pt.locs, Pt.cells, Pt.slots] at X20 l20 y20 z20 st20 hQ20
      subst l20 y20 z20
      obtain ⟨rfl, N20q, e20⟩ := hQ20
      have N0 := Fr.app N0 N20q
      refine own_step (B := T20.setTop (mkF m 91 #[.val (.long q0), .second, .val (.int p1), .val (.int p2), .val (.ref pp), .val (.ref ee), .val (.int fr), .unset, .unset, .unset] [(.int (own_hit (nar .byte v1) (1 : Int32) fr))])) (fun t k => st20 t k) ?_
      by_cases hc91 : (own_hit (nar .byte v1) (1 : Int32) fr) = (0 : Int32)
      · skip
        refine own_step (B := T20.setTop (mkF m 100 #[.val (.long q0), .second, .val (.int p1), .val (.int p2), .val (.ref pp), .val (.ref ee), .val (.int fr), .unset, .unset, .unset] [])) (fun t k => XS.ifYes X20.here hx rfl (pc0 := 91) (pc' := 100) rfl (hb hby at_91) rfl ((if0 _ _).trans (teq hc91).1) (by decide) (by decide) k) ?_
        refine own_step (B := T20.setTop (mkF m 102 #[.val (.long q0), .second, .val (.int p1), .val (.int p2), .val (.ref pp), .val (.ref ee), .val (.int fr), .unset, .unset, .unset] [(.ref pp)])) (fun t k => XS.aload X20.here hx rfl (hb hby at_100) rfl rfl k) ?_
        refine own_step (B := T20.setTop (mkF m 103 #[.val (.long q0), .second, .val (.int p1), .val (.int p2), .val (.ref pp), .val (.ref ee), .val (.int fr), .unset, .unset, .unset] [(.int (2 : Int32)), (.ref pp)])) (fun t k => XS.iconst X20.here hx rfl (hb hby at_102) k) ?_
        refine own_step (B := T20.setTop (mkF m 105 #[.val (.long q0), .second, .val (.int p1), .val (.int p2), .val (.ref pp), .val (.ref ee), .val (.int fr), .unset, .unset, .unset] [(.int fr), (.int (2 : Int32)), (.ref pp)])) (fun t k => XS.iload X20.here hx rfl (hb hby at_103) rfl k) ?_
        obtain ⟨_, _, ⟨T21, L21, k21, n21⟩, -, X21, ⟨Lc21, hQ21, l21, y21, z21⟩, st21⟩ := Jvm.LawKit.callS X20 hx (y := (⟨"com/example/loomwire/loomwire/chat/ChatIndexOfSpacePinLaw", "hit", "([BII)Z"⟩ : MethodName)) hown (mvT hZ (hw _ (List.mem_of_getElem? (i := 5) rfl))) (mvT hZ (hw _ (List.mem_of_getElem? (i := 6) rfl))) (mvT hZ (hw _ (List.mem_of_getElem? (i := 3) rfl))) (mvT hZ (hw _ (List.mem_of_getElem? (i := 7) rfl))) (by decide) (backOf (W := 0) (rmh2 l Z a0 hw [] pp fr _ _ _ _ _ _ h17 n0 Z0 V_pp) hZ (hw _ (List.mem_of_getElem? (i := 7) rfl)) (hw _ (List.mem_of_getElem? (i := 3) rfl)) (by decide) (by decide)) (g := (mkF m 105 #[.val (.long q0), .second, .val (.int p1), .val (.int p2), .val (.ref pp), .val (.ref ee), .val (.int fr), .unset, .unset, .unset] [(.int fr), (.int (2 : Int32)), (.ref pp)])) rfl (by rw [hml]; rfl) (argsL := [(.ref pp), (.int (2 : Int32)), (.int fr)]) (rest := []) (lenOf pd_1 rfl) rfl (by show 2 * 0 + _ ≤ _; exact Nat.le_of_eq rfl) (hb hby at_105) (fun _ _ => ⟨rfl, e20, (by decide : 2 + 0 ≤ _), (by decide : 5 + 0 ≤ _)⟩)
        dsimp only [Pt.U, Pt.locs, Pt.cells, Pt.slots] at X21 l21 y21 z21 st21 hQ21
        subst l21 y21 z21
        obtain ⟨rfl, N21q, e21⟩ := hQ21
        have N0 := Fr.app N0 N21q
        refine own_step (B := T21.setTop (mkF m 108 #[.val (.long q0), .second, .val (.int p1), .val (.int p2), .val (.ref pp), .val (.ref ee), .val (.int fr), .unset, .unset, .unset] [(.int (own_hit (nar .byte v2) (2 : Int32) fr))])) (fun t k => st21 t k) ?_
        by_cases hc108 : (own_hit (nar .byte v2) (2 : Int32) fr) = (0 : Int32)
        · skip
          refine own_step (B := T21.setTop (mkF m 117 #[.val (.long q0), .second, .val (.int p1), .val (.int p2), .val (.ref pp), .val (.ref ee), .val (.int fr), .unset, .unset, .unset] [])) (fun t k => XS.ifYes X21.here hx rfl (pc0 := 108) (pc' := 117) rfl (hb hby at_108) rfl ((if0 _ _).trans (teq hc108).1) (by decide) (by decide) k) ?_
          refine own_step (B := T21.setTop (mkF m 119 #[.val (.long q0), .second, .val (.int p1), .val (.int p2), .val (.ref pp), .val (.ref ee), .val (.int fr), .unset, .unset, .unset] [(.ref pp)])) (fun t k => XS.aload X21.here hx rfl (hb hby at_117) rfl rfl k) ?_
          refine own_step (B := T21.setTop (mkF m 120 #[.val (.long q0), .second, .val (.int p1), .val (.int p2), .val (.ref pp), .val (.ref ee), .val (.int fr), .unset, .unset, .unset] [(.int (3 : Int32)), (.ref pp)])) (fun t k => XS.iconst X21.here hx rfl (hb hby at_119) k) ?_
          refine own_step (B := T21.setTop (mkF m 122 #[.val (.long q0), .second, .val (.int p1), .val (.int p2), .val (.ref pp), .val (.ref ee), .val (.int fr), .unset, .unset, .unset] [(.int fr), (.int (3 : Int32)), (.ref pp)])) (fun t k => XS.iload X21.here hx rfl (hb hby at_120) rfl k) ?_
          obtain ⟨_, _, ⟨T22, L22, k22, n22⟩, -, X22, ⟨Lc22, hQ22, l22, y22, z22⟩, st22⟩ := Jvm.LawKit.callS X21 hx (y := (⟨"com/example/loomwire/loomwire/chat/ChatIndexOfSpacePinLaw", "hit", "([BII)Z"⟩ : MethodName)) hown (mvT hZ (hw _ (List.mem_of_getElem? (i := 5) rfl))) (mvT hZ (hw _ (List.mem_of_getElem? (i := 6) rfl))) (mvT hZ (hw _ (List.mem_of_getElem? (i := 3) rfl))) (mvT hZ (hw _ (List.mem_of_getElem? (i := 7) rfl))) (by decide) (backOf (W := 0) (rmh3 l Z a0 hw [] pp fr _ _ _ _ _ _ h17 n0 Z0 V_pp) hZ (hw _ (List.mem_of_getElem? (i := 7) rfl)) (hw _ (List.mem_of_getElem? (i := 3) rfl)) (by decide) (by decide)) (g := (mkF m 122 #[.val (.long q0), .second, .val (.int p1), .val (.int p2), .val (.ref pp), .val (.ref ee), .val (.int fr), .unset, .unset, .unset] [(.int fr), (.int (3 : Int32)), (.ref pp)])) rfl (by rw [hml]; rfl) (argsL := [(.ref pp), (.int (3 : Int32)), (.int fr)]) (rest := []) (lenOf pd_1 rfl) rfl (by show 2 * 0 + _ ≤ _; exact Nat.le_of_eq rfl) (hb hby at_122) (fun _ _ => ⟨rfl, e21, (by decide : 2 + 0 ≤ _), (by decide : 5 + 0 ≤ _)⟩)
          dsimp only [Pt.U, Pt.locs, Pt.cells, Pt.slots] at X22 l22 y22 z22 st22 hQ22
          subst l22 y22 z22
          obtain ⟨rfl, N22q, e22⟩ := hQ22
          have N0 := Fr.app N0 N22q
          refine own_step (B := T22.setTop (mkF m 125 #[.val (.long q0), .second, .val (.int p1), .val (.int p2), .val (.ref pp), .val (.ref ee), .val (.int fr), .unset, .unset, .unset] [(.int (own_hit (nar .byte v3) (3 : Int32) fr))])) (fun t k => st22 t k) ?_
          by_cases hc125 : (own_hit (nar .byte v3) (3 : Int32) fr) = (0 : Int32)
          · skip
            refine own_step (B := T22.setTop (mkF m 134 #[.val (.long q0), .second, .val (.int p1), .val (.int p2), .val (.ref pp), .val (.ref ee), .val (.int fr), .unset, .unset, .unset] [])) (fun t k => XS.ifYes X22.here hx rfl (pc0 := 125) (pc' := 134) rfl (hb hby at_125) rfl ((if0 _ _).trans (teq hc125).1) (by decide) (by decide) k) ?_
            refine own_step (B := T22.setTop (mkF m 136 #[.val (.long q0), .second, .val (.int p1), .val (.int p2), .val (.ref pp), .val (.ref ee), .val (.int fr), .unset, .unset, .unset] [(.ref pp)])) (fun t k => XS.aload X22.here hx rfl (hb hby at_134) rfl rfl k) ?_
            refine own_step (B := T22.setTop (mkF m 137 #[.val (.long q0), .second, .val (.int p1), .val (.int p2), .val (.ref pp), .val (.ref ee), .val (.int fr), .unset, .unset, .unset] [(.int (4 : Int32)), (.ref pp)])) (fun t k => XS.iconst X22.here hx rfl (hb hby at_136) k) ?_
            refine own_step (B := T22.setTop (mkF m 139 #[.val (.long q0), .second, .val (.int p1), .val (.int p2), .val (.ref pp), .val (.ref ee), .val (.int fr), .unset, .unset, .unset] [(.int fr), (.int (4 : Int32)), (.ref pp)])) (fun t k => XS.iload X22.here hx rfl (hb hby at_137) rfl k) ?_
            obtain ⟨_, _, ⟨T23, L23, k23, n23⟩, -, X23, ⟨Lc23, hQ23, l23, y23, z23⟩, st23⟩ := Jvm.LawKit.callS X22 hx (y := (⟨"com/example/loomwire/loomwire/chat/ChatIndexOfSpacePinLaw", "hit", "([BII)Z"⟩ : MethodName)) hown (mvT hZ (hw _ (List.mem_of_getElem? (i := 5) rfl))) (mvT hZ (hw _ (List.mem_of_getElem? (i := 6) rfl))) (mvT hZ (hw _ (List.mem_of_getElem? (i := 3) rfl))) (mvT hZ (hw _ (List.mem_of_getElem? (i := 7) rfl))) (by decide) (backOf (W := 0) (rmh4 l Z a0 hw [] pp fr _ _ _ _ _ _ h17 n0 Z0 V_pp) hZ (hw _ (List.mem_of_getElem? (i := 7) rfl)) (hw _ (List.mem_of_getElem? (i := 3) rfl)) (by decide) (by decide)) (g := (mkF m 139 #[.val (.long q0), .second, .val (.int p1), .val (.int p2), .val (.ref pp), .val (.ref ee), .val (.int fr), .unset, .unset, .unset] [(.int fr), (.int (4 : Int32)), (.ref pp)])) rfl (by rw [hml]; rfl) (argsL := [(.ref pp), (.int (4 : Int32)), (.int fr)]) (rest := []) (lenOf pd_1 rfl) rfl (by show 2 * 0 + _ ≤ _; exact Nat.le_of_eq rfl) (hb hby at_139) (fun _ _ => ⟨rfl, e22, (by decide : 2 + 0 ≤ _), (by decide : 5 + 0 ≤ _)⟩)
            dsimp only [Pt.U, Pt.locs, Pt.cells, Pt.slots] at X23 l23 y23 z23 st23 hQ23
            subst l23 y23 z23
            obtain ⟨rfl, N23q, e23⟩ := hQ23
            have N0 := Fr.app N0 N23q
            refine own_step (B := T23.setTop (mkF m 142 #[.val (.long q0), .second, .val (.int p1), .val (.int p2), .val (.ref pp), .val (.ref ee), .val (.int fr), .unset, .unset, .unset] [(.int (own_hit (nar .byte v4) (4 : Int32) fr))])) (fun t k => st23 t k) ?_
            by_cases hc142 : (own_hit (nar .byte v4) (4 : Int32) fr) = (0 : Int32)
            · skip
              refine own_step (B := T23.setTop (mkF m 151 #[.val (.long q0), .second, .val (.int p1), .val (.int p2), .val (.ref pp), .val (.ref ee), .val (.int fr), .unset, .unset, .unset] [])) (fun t k => XS.ifYes X23.here hx rfl (pc0 := 142) (pc' := 151) rfl (hb hby at_142) rfl ((if0 _ _).trans (teq hc142).1) (by decide) (by decide) k) ?_
              refine own_step (B := T23.setTop (mkF m 152 #[.val (.long q0), .second, .val (.int p1), .val (.int p2), .val (.ref pp), .val (.ref ee), .val (.int fr), .unset, .unset, .unset] [(.int (-1 : Int32))])) (fun t k => XS.iconst X23.here hx rfl (hb hby at_151) k) ?_
              refine own_step (B := T23.setTop (mkF m 154 #[.val (.long q0), .second, .val (.int p1), .val (.int p2), .val (.ref pp), .val (.ref ee), .val (.int fr), .val (.int (-1 : Int32)), .unset, .unset] [])) (fun t k => XS.istore X23.here hx rfl (hb hby at_152) rfl (l' := #[.val (.long q0), .second, .val (.int p1), .val (.int p2), .val (.ref pp), .val (.ref ee), .val (.int fr), .val (.int (-1 : Int32)), .unset, .unset]) rfl k) ?_
              try simp only [if_pos hc74, if_pos hc91, if_pos hc108, if_pos hc125, if_pos hc142] at hJ
              exact hJ _ _ X23 e23 N0
            · skip
              refine own_step (B := T23.setTop (mkF m 145 #[.val (.long q0), .second, .val (.int p1), .val (.int p2), .val (.ref pp), .val (.ref ee), .val (.int fr), .unset, .unset, .unset] [])) (fun t k => XS.ifNo X23.here hx rfl (hb hby at_142) rfl ((if0 _ _).trans (feq hc142).1) k) ?_
              refine own_step (B := T23.setTop (mkF m 146 #[.val (.long q0), .second, .val (.int p1), .val (.int p2), .val (.ref pp), .val (.ref ee), .val (.int fr), .unset, .unset, .unset] [(.int (4 : Int32))])) (fun t k => XS.iconst X23.here hx rfl (hb hby at_145) k) ?_
              refine own_step (B := T23.setTop (mkF m 148 #[.val (.long q0), .second, .val (.int p1), .val (.int p2), .val (.ref pp), .val (.ref ee), .val (.int fr), .val (.int (4 : Int32)), .unset, .unset] [])) (fun t k => XS.istore X23.here hx rfl (hb hby at_146) rfl (l' := #[.val (.long q0), .second, .val (.int p1), .val (.int p2), .val (.ref pp), .val (.ref ee), .val (.int fr), .val (.int (4 : Int32)), .unset, .unset]) rfl k) ?_
              refine own_step (B := T23.setTop (mkF m 154 #[.val (.long q0), .second, .val (.int p1), .val (.int p2), .val (.ref pp), .val (.ref ee), .val (.int fr), .val (.int (4 : Int32)), .unset, .unset] [])) (fun t k => XS.goto X23.here hx rfl (pc0 := 148) (pc' := 154) rfl (hb hby at_148) (by decide) (by decide) k) ?_
              try simp only [if_pos hc74, if_pos hc91, if_pos hc108, if_pos hc125, if_neg hc142] at hJ
              exact hJ _ _ X23 e23 N0
          · skip
            refine own_step (B := T22.setTop (mkF m 128 #[.val (.long q0), .second, .val (.int p1), .val (.int p2), .val (.ref pp), .val (.ref ee), .val (.int fr), .unset, .unset, .unset] [])) (fun t k => XS.ifNo X22.here hx rfl (hb hby at_125) rfl ((if0 _ _).trans (feq hc125).1) k) ?_
            refine own_step (B := T22.setTop (mkF m 129 #[.val (.long q0), .second, .val (.int p1), .val (.int p2), .val (.ref pp), .val (.ref ee), .val (.int fr), .unset, .unset, .unset] [(.int (3 : Int32))])) (fun t k => XS.iconst X22.here hx rfl (hb hby at_128) k) ?_
            refine own_step (B := T22.setTop (mkF m 131 #[.val (.long q0), .second, .val (.int p1), .val (.int p2), .val (.ref pp), .val (.ref ee), .val (.int fr), .val (.int (3 : Int32)), .unset, .unset] [])) (fun t k => XS.istore X22.here hx rfl (hb hby at_129) rfl (l' := #[.val (.long q0), .second, .val (.int p1), .val (.int p2), .val (.ref pp), .val (.ref ee), .val (.int fr), .val (.int (3 : Int32)), .unset, .unset]) rfl k) ?_
            refine own_step (B := T22.setTop (mkF m 154 #[.val (.long q0), .second, .val (.int p1), .val (.int p2), .val (.ref pp), .val (.ref ee), .val (.int fr), .val (.int (3 : Int32)), .unset, .unset] [])) (fun t k => XS.goto X22.here hx rfl (pc0 := 131) (pc' := 154) rfl (hb hby at_131) (by decide) (by decide) k) ?_
            try simp only [if_pos hc74, if_pos hc91, if_pos hc108, if_neg hc125] at hJ
            exact hJ _ _ X22 e22 N0
        · skip
          refine own_step (B := T21.setTop (mkF m 111 #[.val (.long q0), .second, .val (.int p1), .val (.int p2), .val (.ref pp), .val (.ref ee), .val (.int fr), .unset, .unset, .unset] [])) (fun t k => XS.ifNo X21.here hx rfl (hb hby at_108) rfl ((if0 _ _).trans (feq hc108).1) k) ?_
          refine own_step (B := T21.setTop (mkF m 112 #[.val (.long q0), .second, .val (.int p1), .val (.int p2), .val (.ref pp), .val (.ref ee), .val (.int fr), .unset, .unset, .unset] [(.int (2 : Int32))])) (fun t k => XS.iconst X21.here hx rfl (hb hby at_111) k) ?_
          refine own_step (B := T21.setTop (mkF m 114 #[.val (.long q0), .second, .val (.int p1), .val (.int p2), .val (.ref pp), .val (.ref ee), .val (.int fr), .val (.int (2 : Int32)), .unset, .unset] [])) (fun t k => XS.istore X21.here hx rfl (hb hby at_112) rfl (l' := #[.val (.long q0), .second, .val (.int p1), .val (.int p2), .val (.ref pp), .val (.ref ee), .val (.int fr), .val (.int (2 : Int32)), .unset, .unset]) rfl k) ?_
          refine own_step (B := T21.setTop (mkF m 154 #[.val (.long q0), .second, .val (.int p1), .val (.int p2), .val (.ref pp), .val (.ref ee), .val (.int fr), .val (.int (2 : Int32)), .unset, .unset] [])) (fun t k => XS.goto X21.here hx rfl (pc0 := 114) (pc' := 154) rfl (hb hby at_114) (by decide) (by decide) k) ?_
          try simp only [if_pos hc74, if_pos hc91, if_neg hc108] at hJ
          exact hJ _ _ X21 e21 N0
      · skip
        refine own_step (B := T20.setTop (mkF m 94 #[.val (.long q0), .second, .val (.int p1), .val (.int p2), .val (.ref pp), .val (.ref ee), .val (.int fr), .unset, .unset, .unset] [])) (fun t k => XS.ifNo X20.here hx rfl (hb hby at_91) rfl ((if0 _ _).trans (feq hc91).1) k) ?_
        refine own_step (B := T20.setTop (mkF m 95 #[.val (.long q0), .second, .val (.int p1), .val (.int p2), .val (.ref pp), .val (.ref ee), .val (.int fr), .unset, .unset, .unset] [(.int (1 : Int32))])) (fun t k => XS.iconst X20.here hx rfl (hb hby at_94) k) ?_
        refine own_step (B := T20.setTop (mkF m 97 #[.val (.long q0), .second, .val (.int p1), .val (.int p2), .val (.ref pp), .val (.ref ee), .val (.int fr), .val (.int (1 : Int32)), .unset, .unset] [])) (fun t k => XS.istore X20.here hx rfl (hb hby at_95) rfl (l' := #[.val (.long q0), .second, .val (.int p1), .val (.int p2), .val (.ref pp), .val (.ref ee), .val (.int fr), .val (.int (1 : Int32)), .unset, .unset]) rfl k) ?_
        refine own_step (B := T20.setTop (mkF m 154 #[.val (.long q0), .second, .val (.int p1), .val (.int p2), .val (.ref pp), .val (.ref ee), .val (.int fr), .val (.int (1 : Int32)), .unset, .unset] [])) (fun t k => XS.goto X20.here hx rfl (pc0 := 97) (pc' := 154) rfl (hb hby at_97) (by decide) (by decide) k) ?_
        try simp only [if_pos hc74, if_neg hc91] at hJ
        exact hJ _ _ X20 e20 N0
    · skip
      refine own_step (B := T18.setTop (mkF m 77 #[.val (.long q0), .second, .val (.int p1), .val (.int p2), .val (.ref pp), .val (.ref ee), .val (.int fr), .unset, .unset, .unset] [])) (fun t k => XS.ifNo X18.here hx rfl (hb hby at_74) rfl ((if0 _ _).trans (feq hc74).1) k) ?_
      refine own_step (B := T18.setTop (mkF m 78 #[.val (.long q0), .second, .val (.int p1), .val (.int p2), .val (.ref pp), .val (.ref ee), .val (.int fr), .unset, .unset, .unset] [(.int (0 : Int32))])) (fun t k => XS.iconst X18.here hx rfl (hb hby at_77) k) ?_
      refine own_step (B := T18.setTop (mkF m 80 #[.val (.long q0), .second, .val (.int p1), .val (.int p2), .val (.ref pp), .val (.ref ee), .val (.int fr), .val (.int (0 : Int32)), .unset, .unset] [])) (fun t k => XS.istore X18.here hx rfl (hb hby at_78) rfl (l' := #[.val (.long q0), .second, .val (.int p1), .val (.int p2), .val (.ref pp), .val (.ref ee), .val (.int fr), .val (.int (0 : Int32)), .unset, .unset]) rfl k) ?_
      refine own_step (B := T18.setTop (mkF m 154 #[.val (.long q0), .second, .val (.int p1), .val (.int p2), .val (.ref pp), .val (.ref ee), .val (.int fr), .val (.int (0 : Int32)), .unset, .unset] [])) (fun t k => XS.goto X18.here hx rfl (pc0 := 80) (pc' := 154) rfl (hb hby at_80) (by decide) (by decide) k) ?_
      try simp only [if_neg hc74] at hJ
      exact hJ _ _ X18 e18 N0
  refine J19 ?_
  clear J19
  intro T24 ls24 X24 e24 N0
  refine own_step (B := T24.setTop (mkF m 156 #[.val (.long q0), .second, .val (.int p1), .val (.int p2), .val (.ref pp), .val (.ref ee), .val (.int fr), .val (.int (if (own_hit (nar .byte v0) (0 : Int32) fr) = (0 : Int32) then (if (own_hit (nar .byte v1) (1 : Int32) fr) = (0 : Int32) then (if (own_hit (nar .byte v2) (2 : Int32) fr) = (0 : Int32) then (if (own_hit (nar .byte v3) (3 : Int32) fr) = (0 : Int32) then (if (own_hit (nar .byte v4) (4 : Int32) fr) = (0 : Int32) then (-1 : Int32) else (4 : Int32)) else (3 : Int32)) else (2 : Int32)) else (1 : Int32)) else (0 : Int32))), .unset, .unset] [(.ref pp)])) (fun t k => XS.aload X24.here hx rfl (hb hby at_154) rfl rfl k) ?_
  refine own_step (B := T24.setTop (mkF m 158 #[.val (.long q0), .second, .val (.int p1), .val (.int p2), .val (.ref pp), .val (.ref ee), .val (.int fr), .val (.int (if (own_hit (nar .byte v0) (0 : Int32) fr) = (0 : Int32) then (if (own_hit (nar .byte v1) (1 : Int32) fr) = (0 : Int32) then (if (own_hit (nar .byte v2) (2 : Int32) fr) = (0 : Int32) then (if (own_hit (nar .byte v3) (3 : Int32) fr) = (0 : Int32) then (if (own_hit (nar .byte v4) (4 : Int32) fr) = (0 : Int32) then (-1 : Int32) else (4 : Int32)) else (3 : Int32)) else (2 : Int32)) else (1 : Int32)) else (0 : Int32))), .unset, .unset] [(.int fr), (.ref pp)])) (fun t k => XS.iload X24.here hx rfl (hb hby at_156) rfl k) ?_
  obtain ⟨_, _, ⟨T25, L25, k25, n25⟩, -, X25, ⟨Lc25, hQ25, l25, y25, z25⟩, st25⟩ := Jvm.LawKit.callS X24 hx (y := (⟨"com/example/loomwire/loomwire/chat/Chat", "indexOfSpace", "([BI)I"⟩ : MethodName)) hown (mvT hZ (hw _ (List.mem_of_getElem? (i := 8) rfl))) (mvT hZ (hw _ (List.mem_of_getElem? (i := 9) rfl))) (mvT hZ (hw _ (List.mem_of_getElem? (i := 10) rfl))) (mvT hZ (hw _ (List.mem_of_getElem? (i := 11) rfl))) (by decide) (backOf (W := 0) (rm3 l Z a0 hw [] pp fr _ _ _ _ _ _ h17 n0 Z0 hf8 V_pp) hZ (hw _ (List.mem_of_getElem? (i := 11) rfl)) (hw _ (List.mem_of_getElem? (i := 10) rfl)) (by decide) (by decide)) (g := (mkF m 158 #[.val (.long q0), .second, .val (.int p1), .val (.int p2), .val (.ref pp), .val (.ref ee), .val (.int fr), .val (.int (if (own_hit (nar .byte v0) (0 : Int32) fr) = (0 : Int32) then (if (own_hit (nar .byte v1) (1 : Int32) fr) = (0 : Int32) then (if (own_hit (nar .byte v2) (2 : Int32) fr) = (0 : Int32) then (if (own_hit (nar .byte v3) (3 : Int32) fr) = (0 : Int32) then (if (own_hit (nar .byte v4) (4 : Int32) fr) = (0 : Int32) then (-1 : Int32) else (4 : Int32)) else (3 : Int32)) else (2 : Int32)) else (1 : Int32)) else (0 : Int32))), .unset, .unset] [(.int fr), (.ref pp)])) rfl (by rw [hml]; rfl) (argsL := [(.ref pp), (.int fr)]) (rest := []) (lenOf pd_2 rfl) rfl (by show 2 * 0 + _ ≤ _; exact Nat.le_of_eq rfl) (hb hby at_158) (fun _ _ => ⟨rfl, e24, (by decide : 2 + 0 ≤ _), (by decide : 5 + 0 ≤ _)⟩)
  dsimp only [Pt.U, Pt.locs, Pt.cells, Pt.slots] at X25 l25 y25 z25 st25 hQ25
  subst l25 y25 z25
  obtain ⟨rfl, N25q, e25⟩ := hQ25
  have N0 := Fr.app N0 N25q
  refine own_step (B := T25.setTop (mkF m 161 #[.val (.long q0), .second, .val (.int p1), .val (.int p2), .val (.ref pp), .val (.ref ee), .val (.int fr), .val (.int (if (own_hit (nar .byte v0) (0 : Int32) fr) = (0 : Int32) then (if (own_hit (nar .byte v1) (1 : Int32) fr) = (0 : Int32) then (if (own_hit (nar .byte v2) (2 : Int32) fr) = (0 : Int32) then (if (own_hit (nar .byte v3) (3 : Int32) fr) = (0 : Int32) then (if (own_hit (nar .byte v4) (4 : Int32) fr) = (0 : Int32) then (-1 : Int32) else (4 : Int32)) else (3 : Int32)) else (2 : Int32)) else (1 : Int32)) else (0 : Int32))), .unset, .unset] [(.int (own_want (nar .byte v0) (nar .byte v1) (nar .byte v2) (nar .byte v3) (nar .byte v4) fr))])) (fun t k => st25 t k) ?_
  refine own_step (B := T25.setTop (mkF m 163 #[.val (.long q0), .second, .val (.int p1), .val (.int p2), .val (.ref pp), .val (.ref ee), .val (.int fr), .val (.int (if (own_hit (nar .byte v0) (0 : Int32) fr) = (0 : Int32) then (if (own_hit (nar .byte v1) (1 : Int32) fr) = (0 : Int32) then (if (own_hit (nar .byte v2) (2 : Int32) fr) = (0 : Int32) then (if (own_hit (nar .byte v3) (3 : Int32) fr) = (0 : Int32) then (if (own_hit (nar .byte v4) (4 : Int32) fr) = (0 : Int32) then (-1 : Int32) else (4 : Int32)) else (3 : Int32)) else (2 : Int32)) else (1 : Int32)) else (0 : Int32))), .val (.int (own_want (nar .byte v0) (nar .byte v1) (nar .byte v2) (nar .byte v3) (nar .byte v4) fr)), .unset] [])) (fun t k => XS.istore X25.here hx rfl (hb hby at_161) rfl (l' := #[.val (.long q0), .second, .val (.int p1), .val (.int p2), .val (.ref pp), .val (.ref ee), .val (.int fr), .val (.int (if (own_hit (nar .byte v0) (0 : Int32) fr) = (0 : Int32) then (if (own_hit (nar .byte v1) (1 : Int32) fr) = (0 : Int32) then (if (own_hit (nar .byte v2) (2 : Int32) fr) = (0 : Int32) then (if (own_hit (nar .byte v3) (3 : Int32) fr) = (0 : Int32) then (if (own_hit (nar .byte v4) (4 : Int32) fr) = (0 : Int32) then (-1 : Int32) else (4 : Int32)) else (3 : Int32)) else (2 : Int32)) else (1 : Int32)) else (0 : Int32))), .val (.int (own_want (nar .byte v0) (nar .byte v1) (nar .byte v2) (nar .byte v3) (nar .byte v4) fr)), .unset]) rfl k) ?_
  refine own_step (B := T25.setTop (mkF m 165 #[.val (.long q0), .second, .val (.int p1), .val (.int p2), .val (.ref pp), .val (.ref ee), .val (.int fr), .val (.int (if (own_hit (nar .byte v0) (0 : Int32) fr) = (0 : Int32) then (if (own_hit (nar .byte v1) (1 : Int32) fr) = (0 : Int32) then (if (own_hit (nar .byte v2) (2 : Int32) fr) = (0 : Int32) then (if (own_hit (nar .byte v3) (3 : Int32) fr) = (0 : Int32) then (if (own_hit (nar .byte v4) (4 : Int32) fr) = (0 : Int32) then (-1 : Int32) else (4 : Int32)) else (3 : Int32)) else (2 : Int32)) else (1 : Int32)) else (0 : Int32))), .val (.int (own_want (nar .byte v0) (nar .byte v1) (nar .byte v2) (nar .byte v3) (nar .byte v4) fr)), .unset] [(.ref ee)])) (fun t k => XS.aload X25.here hx rfl (hb hby at_163) rfl rfl k) ?_
  refine own_step (B := T25.setTop (mkF m 167 #[.val (.long q0), .second, .val (.int p1), .val (.int p2), .val (.ref pp), .val (.ref ee), .val (.int fr), .val (.int (if (own_hit (nar .byte v0) (0 : Int32) fr) = (0 : Int32) then (if (own_hit (nar .byte v1) (1 : Int32) fr) = (0 : Int32) then (if (own_hit (nar .byte v2) (2 : Int32) fr) = (0 : Int32) then (if (own_hit (nar .byte v3) (3 : Int32) fr) = (0 : Int32) then (if (own_hit (nar .byte v4) (4 : Int32) fr) = (0 : Int32) then (-1 : Int32) else (4 : Int32)) else (3 : Int32)) else (2 : Int32)) else (1 : Int32)) else (0 : Int32))), .val (.int (own_want (nar .byte v0) (nar .byte v1) (nar .byte v2) (nar .byte v3) (nar .byte v4) fr)), .unset] [(.int fr), (.ref ee)])) (fun t k => XS.iload X25.here hx rfl (hb hby at_165) rfl k) ?_
  obtain ⟨_, _, ⟨T26, L26, k26, n26⟩, -, X26, ⟨Lc26, hQ26, l26, y26, z26⟩, st26⟩ := Jvm.LawKit.callS X25 hx (y := (⟨"com/example/loomwire/loomwire/chat/Chat", "indexOfSpace", "([BI)I"⟩ : MethodName)) hown (mvT hZ (hw _ (List.mem_of_getElem? (i := 8) rfl))) (mvT hZ (hw _ (List.mem_of_getElem? (i := 9) rfl))) (mvT hZ (hw _ (List.mem_of_getElem? (i := 10) rfl))) (mvT hZ (hw _ (List.mem_of_getElem? (i := 11) rfl))) (by decide) (backOf (W := 0) (rme l Z a0 hw [] ee fr _ h17 n0 Z0 hf0 V_ee) hZ (hw _ (List.mem_of_getElem? (i := 11) rfl)) (hw _ (List.mem_of_getElem? (i := 10) rfl)) (by decide) (by decide)) (g := (mkF m 167 #[.val (.long q0), .second, .val (.int p1), .val (.int p2), .val (.ref pp), .val (.ref ee), .val (.int fr), .val (.int (if (own_hit (nar .byte v0) (0 : Int32) fr) = (0 : Int32) then (if (own_hit (nar .byte v1) (1 : Int32) fr) = (0 : Int32) then (if (own_hit (nar .byte v2) (2 : Int32) fr) = (0 : Int32) then (if (own_hit (nar .byte v3) (3 : Int32) fr) = (0 : Int32) then (if (own_hit (nar .byte v4) (4 : Int32) fr) = (0 : Int32) then (-1 : Int32) else (4 : Int32)) else (3 : Int32)) else (2 : Int32)) else (1 : Int32)) else (0 : Int32))), .val (.int (own_want (nar .byte v0) (nar .byte v1) (nar .byte v2) (nar .byte v3) (nar .byte v4) fr)), .unset] [(.int fr), (.ref ee)])) rfl (by rw [hml]; rfl) (argsL := [(.ref ee), (.int fr)]) (rest := []) (lenOf pd_2 rfl) rfl (by show 2 * 0 + _ ≤ _; exact Nat.le_of_eq rfl) (hb hby at_167) (fun _ _ => ⟨rfl, e25, (by decide : 2 + 0 ≤ _), (by decide : 5 + 0 ≤ _)⟩)
  dsimp only [Pt.U, Pt.locs, Pt.cells, Pt.slots] at X26 l26 y26 z26 st26 hQ26
  subst l26 y26 z26
  obtain ⟨rfl, N26q, e26⟩ := hQ26
  have N0 := Fr.app N0 N26q
  refine own_step (B := T26.setTop (mkF m 170 #[.val (.long q0), .second, .val (.int p1), .val (.int p2), .val (.ref pp), .val (.ref ee), .val (.int fr), .val (.int (if (own_hit (nar .byte v0) (0 : Int32) fr) = (0 : Int32) then (if (own_hit (nar .byte v1) (1 : Int32) fr) = (0 : Int32) then (if (own_hit (nar .byte v2) (2 : Int32) fr) = (0 : Int32) then (if (own_hit (nar .byte v3) (3 : Int32) fr) = (0 : Int32) then (if (own_hit (nar .byte v4) (4 : Int32) fr) = (0 : Int32) then (-1 : Int32) else (4 : Int32)) else (3 : Int32)) else (2 : Int32)) else (1 : Int32)) else (0 : Int32))), .val (.int (own_want (nar .byte v0) (nar .byte v1) (nar .byte v2) (nar .byte v3) (nar .byte v4) fr)), .unset] [(.int (-1 : Int32))])) (fun t k => st26 t k) ?_
  refine own_step (B := T26.setTop (mkF m 172 #[.val (.long q0), .second, .val (.int p1), .val (.int p2), .val (.ref pp), .val (.ref ee), .val (.int fr), .val (.int (if (own_hit (nar .byte v0) (0 : Int32) fr) = (0 : Int32) then (if (own_hit (nar .byte v1) (1 : Int32) fr) = (0 : Int32) then (if (own_hit (nar .byte v2) (2 : Int32) fr) = (0 : Int32) then (if (own_hit (nar .byte v3) (3 : Int32) fr) = (0 : Int32) then (if (own_hit (nar .byte v4) (4 : Int32) fr) = (0 : Int32) then (-1 : Int32) else (4 : Int32)) else (3 : Int32)) else (2 : Int32)) else (1 : Int32)) else (0 : Int32))), .val (.int (own_want (nar .byte v0) (nar .byte v1) (nar .byte v2) (nar .byte v3) (nar .byte v4) fr)), .val (.int (-1 : Int32))] [])) (fun t k => XS.istore X26.here hx rfl (hb hby at_170) rfl (l' := #[.val (.long q0), .second, .val (.int p1), .val (.int p2), .val (.ref pp), .val (.ref ee), .val (.int fr), .val (.int (if (own_hit (nar .byte v0) (0 : Int32) fr) = (0 : Int32) then (if (own_hit (nar .byte v1) (1 : Int32) fr) = (0 : Int32) then (if (own_hit (nar .byte v2) (2 : Int32) fr) = (0 : Int32) then (if (own_hit (nar .byte v3) (3 : Int32) fr) = (0 : Int32) then (if (own_hit (nar .byte v4) (4 : Int32) fr) = (0 : Int32) then (-1 : Int32) else (4 : Int32)) else (3 : Int32)) else (2 : Int32)) else (1 : Int32)) else (0 : Int32))), .val (.int (own_want (nar .byte v0) (nar .byte v1) (nar .byte v2) (nar .byte v3) (nar .byte v4) fr)), .val (.int (-1 : Int32))]) rfl k) ?_
  refine own_step (B := T26.setTop (mkF m 174 #[.val (.long q0), .second, .val (.int p1), .val (.int p2), .val (.ref pp), .val (.ref ee), .val (.int fr), .val (.int (if (own_hit (nar .byte v0) (0 : Int32) fr) = (0 : Int32) then (if (own_hit (nar .byte v1) (1 : Int32) fr) = (0 : Int32) then (if (own_hit (nar .byte v2) (2 : Int32) fr) = (0 : Int32) then (if (own_hit (nar .byte v3) (3 : Int32) fr) = (0 : Int32) then (if (own_hit (nar .byte v4) (4 : Int32) fr) = (0 : Int32) then (-1 : Int32) else (4 : Int32)) else (3 : Int32)) else (2 : Int32)) else (1 : Int32)) else (0 : Int32))), .val (.int (own_want (nar .byte v0) (nar .byte v1) (nar .byte v2) (nar .byte v3) (nar .byte v4) fr)), .val (.int (-1 : Int32))] [(.int (own_want (nar .byte v0) (nar .byte v1) (nar .byte v2) (nar .byte v3) (nar .byte v4) fr))])) (fun t k => XS.iload X26.here hx rfl (hb hby at_172) rfl k) ?_
  refine own_step (B := T26.setTop (mkF m 176 #[.val (.long q0), .second, .val (.int p1), .val (.int p2), .val (.ref pp), .val (.ref ee), .val (.int fr), .val (.int (if (own_hit (nar .byte v0) (0 : Int32) fr) = (0 : Int32) then (if (own_hit (nar .byte v1) (1 : Int32) fr) = (0 : Int32) then (if (own_hit (nar .byte v2) (2 : Int32) fr) = (0 : Int32) then (if (own_hit (nar .byte v3) (3 : Int32) fr) = (0 : Int32) then (if (own_hit (nar .byte v4) (4 : Int32) fr) = (0 : Int32) then (-1 : Int32) else (4 : Int32)) else (3 : Int32)) else (2 : Int32)) else (1 : Int32)) else (0 : Int32))), .val (.int (own_want (nar .byte v0) (nar .byte v1) (nar .byte v2) (nar .byte v3) (nar .byte v4) fr)), .val (.int (-1 : Int32))] [(.int (if (own_hit (nar .byte v0) (0 : Int32) fr) = (0 : Int32) then (if (own_hit (nar .byte v1) (1 : Int32) fr) = (0 : Int32) then (if (own_hit (nar .byte v2) (2 : Int32) fr) = (0 : Int32) then (if (own_hit (nar .byte v3) (3 : Int32) fr) = (0 : Int32) then (if (own_hit (nar .byte v4) (4 : Int32) fr) = (0 : Int32) then (-1 : Int32) else (4 : Int32)) else (3 : Int32)) else (2 : Int32)) else (1 : Int32)) else (0 : Int32))), (.int (own_want (nar .byte v0) (nar .byte v1) (nar .byte v2) (nar .byte v3) (nar .byte v4) fr))])) (fun t k => XS.iload X26.here hx rfl (hb hby at_174) rfl k) ?_
  refine own_step (B := T26.setTop (mkF m 179 #[.val (.long q0), .second, .val (.int p1), .val (.int p2), .val (.ref pp), .val (.ref ee), .val (.int fr), .val (.int (if (own_hit (nar .byte v0) (0 : Int32) fr) = (0 : Int32) then (if (own_hit (nar .byte v1) (1 : Int32) fr) = (0 : Int32) then (if (own_hit (nar .byte v2) (2 : Int32) fr) = (0 : Int32) then (if (own_hit (nar .byte v3) (3 : Int32) fr) = (0 : Int32) then (if (own_hit (nar .byte v4) (4 : Int32) fr) = (0 : Int32) then (-1 : Int32) else (4 : Int32)) else (3 : Int32)) else (2 : Int32)) else (1 : Int32)) else (0 : Int32))), .val (.int (own_want (nar .byte v0) (nar .byte v1) (nar .byte v2) (nar .byte v3) (nar .byte v4) fr)), .val (.int (-1 : Int32))] [])) (fun t k => XS.icmpNo X26.here hx rfl (hb hby at_176) rfl (teq rfl).2 k) ?_
  refine own_step (B := T26.setTop (mkF m 181 #[.val (.long q0), .second, .val (.int p1), .val (.int p2), .val (.ref pp), .val (.ref ee), .val (.int fr), .val (.int (if (own_hit (nar .byte v0) (0 : Int32) fr) = (0 : Int32) then (if (own_hit (nar .byte v1) (1 : Int32) fr) = (0 : Int32) then (if (own_hit (nar .byte v2) (2 : Int32) fr) = (0 : Int32) then (if (own_hit (nar .byte v3) (3 : Int32) fr) = (0 : Int32) then (if (own_hit (nar .byte v4) (4 : Int32) fr) = (0 : Int32) then (-1 : Int32) else (4 : Int32)) else (3 : Int32)) else (2 : Int32)) else (1 : Int32)) else (0 : Int32))), .val (.int (own_want (nar .byte v0) (nar .byte v1) (nar .byte v2) (nar .byte v3) (nar .byte v4) fr)), .val (.int (-1 : Int32))] [(.int (-1 : Int32))])) (fun t k => XS.iload X26.here hx rfl (hb hby at_179) rfl k) ?_
  refine own_step (B := T26.setTop (mkF m 182 #[.val (.long q0), .second, .val (.int p1), .val (.int p2), .val (.ref pp), .val (.ref ee), .val (.int fr), .val (.int (if (own_hit (nar .byte v0) (0 : Int32) fr) = (0 : Int32) then (if (own_hit (nar .byte v1) (1 : Int32) fr) = (0 : Int32) then (if (own_hit (nar .byte v2) (2 : Int32) fr) = (0 : Int32) then (if (own_hit (nar .byte v3) (3 : Int32) fr) = (0 : Int32) then (if (own_hit (nar .byte v4) (4 : Int32) fr) = (0 : Int32) then (-1 : Int32) else (4 : Int32)) else (3 : Int32)) else (2 : Int32)) else (1 : Int32)) else (0 : Int32))), .val (.int (own_want (nar .byte v0) (nar .byte v1) (nar .byte v2) (nar .byte v3) (nar .byte v4) fr)), .val (.int (-1 : Int32))] [(.int (-1 : Int32)), (.int (-1 : Int32))])) (fun t k => XS.iconst X26.here hx rfl (hb hby at_181) k) ?_
  refine own_step (B := T26.setTop (mkF m 185 #[.val (.long q0), .second, .val (.int p1), .val (.int p2), .val (.ref pp), .val (.ref ee), .val (.int fr), .val (.int (if (own_hit (nar .byte v0) (0 : Int32) fr) = (0 : Int32) then (if (own_hit (nar .byte v1) (1 : Int32) fr) = (0 : Int32) then (if (own_hit (nar .byte v2) (2 : Int32) fr) = (0 : Int32) then (if (own_hit (nar .byte v3) (3 : Int32) fr) = (0 : Int32) then (if (own_hit (nar .byte v4) (4 : Int32) fr) = (0 : Int32) then (-1 : Int32) else (4 : Int32)) else (3 : Int32)) else (2 : Int32)) else (1 : Int32)) else (0 : Int32))), .val (.int (own_want (nar .byte v0) (nar .byte v1) (nar .byte v2) (nar .byte v3) (nar .byte v4) fr)), .val (.int (-1 : Int32))] [])) (fun t k => XS.icmpNo X26.here hx rfl (hb hby at_182) rfl (teq rfl).2 k) ?_
  refine own_step (B := T26.setTop (mkF m 186 #[.val (.long q0), .second, .val (.int p1), .val (.int p2), .val (.ref pp), .val (.ref ee), .val (.int fr), .val (.int (if (own_hit (nar .byte v0) (0 : Int32) fr) = (0 : Int32) then (if (own_hit (nar .byte v1) (1 : Int32) fr) = (0 : Int32) then (if (own_hit (nar .byte v2) (2 : Int32) fr) = (0 : Int32) then (if (own_hit (nar .byte v3) (3 : Int32) fr) = (0 : Int32) then (if (own_hit (nar .byte v4) (4 : Int32) fr) = (0 : Int32) then (-1 : Int32) else (4 : Int32)) else (3 : Int32)) else (2 : Int32)) else (1 : Int32)) else (0 : Int32))), .val (.int (own_want (nar .byte v0) (nar .byte v1) (nar .byte v2) (nar .byte v3) (nar .byte v4) fr)), .val (.int (-1 : Int32))] [(.int (1 : Int32))])) (fun t k => XS.iconst X26.here hx rfl (hb hby at_185) k) ?_
  refine own_step (B := T26.setTop (mkF m 190 #[.val (.long q0), .second, .val (.int p1), .val (.int p2), .val (.ref pp), .val (.ref ee), .val (.int fr), .val (.int (if (own_hit (nar .byte v0) (0 : Int32) fr) = (0 : Int32) then (if (own_hit (nar .byte v1) (1 : Int32) fr) = (0 : Int32) then (if (own_hit (nar .byte v2) (2 : Int32) fr) = (0 : Int32) then (if (own_hit (nar .byte v3) (3 : Int32) fr) = (0 : Int32) then (if (own_hit (nar .byte v4) (4 : Int32) fr) = (0 : Int32) then (-1 : Int32) else (4 : Int32)) else (3 : Int32)) else (2 : Int32)) else (1 : Int32)) else (0 : Int32))), .val (.int (own_want (nar .byte v0) (nar .byte v1) (nar .byte v2) (nar .byte v3) (nar .byte v4) fr)), .val (.int (-1 : Int32))] [(.int (1 : Int32))])) (fun t k => XS.goto X26.here hx rfl (pc0 := 186) (pc' := 190) rfl (hb hby at_186) (by decide) (by decide) k) ?_
  exact own_retN X26 hx hlk (t := .boolean) Bd.returns (by simp) (hb hby at_190) (by decide) (by decide) (by exact ⟨rfl, N0⟩)
set_option maxRecDepth 65536 in
set_option maxHeartbeats 40000000 in
theorem comes_1 {Post : Tables → Env → Array Value → State → Outcome → State → Prop} (hpost : ∀ tb e args s v u, (limb_1_1.after args s (.returned v) u = true ∧ limb_1_2.after args s (.returned v) u = true ∧ True) → FrameEnd s (.returned v) u (Jvm.fieldLocs frame_1_writes args s ++ Jvm.arrayLocs frame_1_arrays args s ++ Jvm.staticLocs frame_1_statics s) 16 128 → Post tb e args s (.returned v) u) :
    ArmFor flags0 classFile x code maxLocals ret World_1 tables_1 room_1 Calls_1 rest_1 Pre_1 Post := by
  intro l hfl _ _ p e ha hc hk s m args below hf hA hF happ hP
  obtain ⟨hcalls, hrest, hpre⟩ := hP
  obtain ⟨-, -, -, hnamed, -, -, -, hat⟩ := (Spec.applies_iff hf).mp happ
  obtain ⟨hg, hn⟩ := and_e (Cond.before_iff.mp (show (Jvm.Cond.and given_1 narrow_1).before args s = true from hpre))
  obtain ⟨g0, k0⟩ := and_e hg
  obtain ⟨g1, k1⟩ := and_e k0
  obtain ⟨g2, k2⟩ := and_e k1
  obtain ⟨w0, w1, w2, rfl⟩ : ∃ w0 w1 w2 : Value, args = #[w0, w1, w2] := by
    have hs : args.size = 3 := by simpa [Cond.value, given_1] using g0
    obtain ⟨L⟩ := args
    match L, hs with
    | [w0, w1, w2], _ => exact ⟨w0, w1, w2, rfl⟩
  have hw := fun d (hd : d ∈ tables_1) => atoms_spec (ws := Jvm.Cond.code x code maxLocals ret :: tables_1) hat d (List.mem_cons_of_mem _ hd)
  have hfit : Fit s := fun {y c} hc i hi => by
    obtain ⟨ha, rfl⟩ := Array.getElem?_eq_some_iff.mp hc
    have q := List.all_eq_true.mp ((Array.all_eq_true_iff_forall_mem.mp hF) _ (Array.getElem_mem ha)) i (List.mem_range.mpr hi)
    simpa [Array.getElem?_eq_getElem hi] using q
  obtain ⟨i0, ei0⟩ := isL_v g1
  obtain rfl : w0 = (.long i0) := Option.some.inj ei0
  obtain ⟨i1, ei1⟩ := is_v g2
  obtain rfl : w1 = (.int i1) := Option.some.inj ei1
  obtain ⟨i2, ei2⟩ := is_v k2
  obtain rfl : w2 = (.int i2) := Option.some.inj ei2
  obtain ⟨n, o, h1, h2, h3, _, L, rfl, ⟨rfl, N⟩, hq⟩ := rm0 l s _ hw tables_1 i0 i1 i2 s.heap s.heap.size (Nat.le_refl _)  p e ha hc hk s m _ below hf ((Spec.applies_iff_loose hf).mp happ).1 ⟨rfl, State.Warmed39.refl s, rfl⟩ trivial
  refine ⟨n, _, h1, h2, h3, hpost _ _ _ _ _ _ ⟨Cond.after_iff.mpr rfl, Cond.after_iff.mpr (eq_i res_at (Term.int_eval (1)) rfl), trivial⟩ ⟨hq.1, hq.2.1, (hq.2.2.sift fun y hy => Or.inr (N y hy)).mono (by decide) (by decide)⟩⟩
theorem main_1_1 : Claimed_1_1 := comes_1 fun _ _ _ _ _ _ h hF => ⟨h.1, hF⟩
theorem main_1_2 : Claimed_1_2 := comes_1 fun _ _ _ _ _ _ h hF => ⟨h.2.1, hF⟩
end Jvm.Pilot.@@N@@
namespace Jvm.Pilot.@@N@@
open Jvm Jvm.ClassFile Sem Op Lib Jvm.Free Jvm.Stand Jvm.Pilot.@@N@@.Jvm.D
/-! MADE BY PROGRAM (witnessworld.py) out of the Statement's table words and the real class files: 9 classes; the members and pool entries that the words name. The judged class is class 1, her method 3. -/
namespace start1
open Jvm.ClassFile
def u (s : String) : CpInfo := .utf8 (stringToUtf16 s)
/-- a pool by its gaps: so many unusable entries, then the entry; so many at the end -/
def gap : Nat → List CpInfo → List CpInfo
  | 0, r => r
  | n + 1, r => .unusable :: gap n r
def poolList (es : List (Nat × CpInfo)) (last : Nat) : List CpInfo := es.foldr (fun e r => gap e.1 (e.2 :: r)) (gap last [])
def pool (es : List (Nat × CpInfo)) (last : Nat) : Array CpInfo := ⟨poolList es last⟩
def fileOf (pool : Array CpInfo) (this : Nat) (attrs : Array Attribute := #[]) (ms : Array MethodInfo := #[]) (fl : Nat := 33) (sup : Nat := 0) (ifs : Array Nat := #[]) (fds : Array FieldInfo := #[]) : ClassFile where
  minorVersion := 0
  majorVersion := 65
  constantPool := pool
  accessFlags := fl
  thisClass := this
  superClass := sup
  interfaces := ifs
  fields := fds
  methods := ms
  attributes := attrs
def plain (name : String) (sup : Option ClassId) : Class where
  name := name
  kind := .ordinary
  loader := none
  accessFlags := 33
  super := sup
  interfaces := #[]
  cf := none
  fields := #[]
  methods := #[]
  instanceTypes := #[]
  staticTypes := #[]
  resolved := #[]
  callSites := []
  init := .initialized
  statics := none
  mirror := none

def pool0 : Array CpInfo := pool [(5, u "<init>"), (0, u "()V"), (1, .class_ 10), (1, u "java/lang/Object")] 113

def k0m0 : Method := { name := "<init>", desc := "()V", sig := { parameters := [], returnType := none }, accessFlags := 1, code := none }
/-- java/lang/Object -/
def k0 : Class := { plain "java/lang/Object" none with
  accessFlags := 33
  interfaces := #[]
  cf := some (fileOf pool0 8 #[] #[{ accessFlags := 1, nameIndex := 5, descriptorIndex := 6, attributes := #[] }] 33 0 #[] #[])
  fields := #[]
  methods := #[k0m0]
  instanceTypes := #[]
  staticTypes := #[]
  resolved := Array.replicate 124 none
  statics := none }

def pool1 : Array CpInfo := pool [(2, .class_ 4), (1, u "java/lang/Object"), (0, u "<init>"), (0, u "()V"), (0, .methodref 8 9), (0, .class_ 10), (0, .nameAndType 11 12), (0, u "com/example/loomwire/loomwire/chat/ChatIndexOfSpacePinLaw"), (0, u "pick"), (0, u "(IJI)B"), (0, .methodref 8 14), (0, .nameAndType 15 16), (0, u "hit"), (0, u "([BII)Z"), (0, .methodref 18 19), (0, .class_ 20), (0, .nameAndType 21 22), (0, u "com/example/loomwire/loomwire/chat/Chat"), (0, u "indexOfSpace"), (0, u "([BI)I"), (3, u "law"), (0, u "(JII)Z")] 4

def k1m0 : Method := { name := "<init>", desc := "()V", sig := { parameters := [], returnType := none }, accessFlags := 2, code := none }
def k1c1 : Code := { maxStack := 4, maxLocals := 4, code := method_2_code, exceptionTable := #[], attributes := #[] }
def k1m1 : Method := { name := "pick", desc := "(IJI)B", sig := { parameters := [.int, .long, .int], returnType := some .byte }, accessFlags := 10, code := some k1c1 }
def k1c2 : Code := { maxStack := 2, maxLocals := 3, code := method_3_code, exceptionTable := #[], attributes := #[] }
def k1m2 : Method := { name := "hit", desc := "([BII)Z", sig := { parameters := [(.array .byte), .int, .int], returnType := some .boolean }, accessFlags := 10, code := some k1c2 }
def k1c3 : Code := { maxStack := 6, maxLocals := 10, code := code, exceptionTable := #[], attributes := #[] }
def k1m3 : Method := { name := "law", desc := "(JII)Z", sig := { parameters := [.long, .int, .int], returnType := some .boolean }, accessFlags := 9, code := some k1c3 }
/-- com/example/loomwire/loomwire/chat/ChatIndexOfSpacePinLaw -/
def k1 : Class := { plain "com/example/loomwire/loomwire/chat/ChatIndexOfSpacePinLaw" (some 0) with
  accessFlags := 49
  interfaces := #[]
  cf := some (fileOf pool1 8 #[] #[{ accessFlags := 2, nameIndex := 5, descriptorIndex := 6, attributes := #[] }, { accessFlags := 10, nameIndex := 11, descriptorIndex := 12, attributes := #[] }, { accessFlags := 10, nameIndex := 15, descriptorIndex := 16, attributes := #[] }, { accessFlags := 9, nameIndex := 26, descriptorIndex := 27, attributes := #[] }] 49 2 #[] #[])
  fields := #[]
  methods := #[k1m0, k1m1, k1m2, k1m3]
  instanceTypes := #[]
  staticTypes := #[]
  resolved := Array.replicate 32 none
  statics := none }

def pool2 : Array CpInfo := pool [(2, .class_ 4), (1, u "java/lang/Object"), (0, u "<init>"), (0, u "()V"), (10, .class_ 18), (0, u "com/example/loomwire/loomwire/chat/Chat"), (115, u "REGISTER"), (0, u "Ljava/lang/String;"), (3, u "CREATE"), (2, u "JOIN"), (2, u "SAY"), (2, u "SAID"), (2, u "TELL"), (2, u "TOLD"), (2, u "LEAVE"), (2, u "MEMBERS"), (2, u "ROOMS"), (2, u "DELETE"), (2, u "DELETED"), (2, u "MAX_NAME_LENGTH"), (0, u "I"), (1, u "MAX_TEXT_BYTES"), (23, u "indexOfSpace"), (0, u "([BI)I"), (5, .class_ 207), (0, u "com/example/loomwire/loomwire/chat/Chat$Told"), (0, .class_ 209), (0, u "com/example/loomwire/loomwire/chat/Chat$Said"), (0, .class_ 211), (0, u "com/example/loomwire/loomwire/chat/Chat$Names")] 18

def k2m0 : Method := { name := "<init>", desc := "()V", sig := { parameters := [], returnType := none }, accessFlags := 2, code := none }
def k2c1 : Code := { maxStack := 2, maxLocals := 3, code := prog_17_method_14_code, exceptionTable := #[], attributes := #[] }
def k2m1 : Method := { name := "indexOfSpace", desc := "([BI)I", sig := { parameters := [(.array .byte), .int], returnType := some .int }, accessFlags := 8, code := some k2c1 }
/-- com/example/loomwire/loomwire/chat/Chat -/
def k2 : Class := { plain "com/example/loomwire/loomwire/chat/Chat" (some 0) with
  accessFlags := 49
  interfaces := #[]
  cf := some (fileOf pool2 17 #[.nestMembers #[206, 208, 210]] #[{ accessFlags := 2, nameIndex := 5, descriptorIndex := 6, attributes := #[] }, { accessFlags := 8, nameIndex := 199, descriptorIndex := 200, attributes := #[] }] 49 2 #[] #[{ accessFlags := 25, nameIndex := 134, descriptorIndex := 135, attributes := #[] }, { accessFlags := 25, nameIndex := 139, descriptorIndex := 135, attributes := #[] }, { accessFlags := 25, nameIndex := 142, descriptorIndex := 135, attributes := #[] }, { accessFlags := 25, nameIndex := 145, descriptorIndex := 135, attributes := #[] }, { accessFlags := 25, nameIndex := 148, descriptorIndex := 135, attributes := #[] }, { accessFlags := 25, nameIndex := 151, descriptorIndex := 135, attributes := #[] }, { accessFlags := 25, nameIndex := 154, descriptorIndex := 135, attributes := #[] }, { accessFlags := 25, nameIndex := 157, descriptorIndex := 135, attributes := #[] }, { accessFlags := 25, nameIndex := 160, descriptorIndex := 135, attributes := #[] }, { accessFlags := 25, nameIndex := 163, descriptorIndex := 135, attributes := #[] }, { accessFlags := 25, nameIndex := 166, descriptorIndex := 135, attributes := #[] }, { accessFlags := 25, nameIndex := 169, descriptorIndex := 135, attributes := #[] }, { accessFlags := 25, nameIndex := 172, descriptorIndex := 173, attributes := #[] }, { accessFlags := 25, nameIndex := 175, descriptorIndex := 173, attributes := #[] }])
  fields := #[{ name := "REGISTER", type := (.object "java/lang/String"), accessFlags := 25, slot := 0, constantValue := 0 }, { name := "CREATE", type := (.object "java/lang/String"), accessFlags := 25, slot := 1, constantValue := 0 }, { name := "JOIN", type := (.object "java/lang/String"), accessFlags := 25, slot := 2, constantValue := 0 }, { name := "SAY", type := (.object "java/lang/String"), accessFlags := 25, slot := 3, constantValue := 0 }, { name := "SAID", type := (.object "java/lang/String"), accessFlags := 25, slot := 4, constantValue := 0 }, { name := "TELL", type := (.object "java/lang/String"), accessFlags := 25, slot := 5, constantValue := 0 }, { name := "TOLD", type := (.object "java/lang/String"), accessFlags := 25, slot := 6, constantValue := 0 }, { name := "LEAVE", type := (.object "java/lang/String"), accessFlags := 25, slot := 7, constantValue := 0 }, { name := "MEMBERS", type := (.object "java/lang/String"), accessFlags := 25, slot := 8, constantValue := 0 }, { name := "ROOMS", type := (.object "java/lang/String"), accessFlags := 25, slot := 9, constantValue := 0 }, { name := "DELETE", type := (.object "java/lang/String"), accessFlags := 25, slot := 10, constantValue := 0 }, { name := "DELETED", type := (.object "java/lang/String"), accessFlags := 25, slot := 11, constantValue := 0 }, { name := "MAX_NAME_LENGTH", type := .int, accessFlags := 25, slot := 12, constantValue := 0 }, { name := "MAX_TEXT_BYTES", type := .int, accessFlags := 25, slot := 13, constantValue := 0 }]
  methods := #[k2m0, k2m1]
  instanceTypes := #[]
  staticTypes := #[(.object "java/lang/String"), (.object "java/lang/String"), (.object "java/lang/String"), (.object "java/lang/String"), (.object "java/lang/String"), (.object "java/lang/String"), (.object "java/lang/String"), (.object "java/lang/String"), (.object "java/lang/String"), (.object "java/lang/String"), (.object "java/lang/String"), (.object "java/lang/String"), .int, .int]
  resolved := Array.replicate 230 none
  statics := none }

def pool3 : Array CpInfo := pool [(1, u "java/lang/Cloneable"), (0, .class_ 1), (0, u "java/lang/Object"), (0, .class_ 3)] 3

/-- java/lang/Cloneable -/
def k3 : Class := { plain "java/lang/Cloneable" (some 0) with
  accessFlags := 1537
  interfaces := #[]
  cf := some (fileOf pool3 2 #[] #[] 1537 4 #[] #[])
  fields := #[]
  methods := #[]
  instanceTypes := #[]
  staticTypes := #[]
  resolved := Array.replicate 8 none
  statics := none }

def pool4 : Array CpInfo := pool [(1, u "java/io/Serializable"), (0, .class_ 1), (0, u "java/lang/Object"), (0, .class_ 3)] 3

/-- java/io/Serializable -/
def k4 : Class := { plain "java/io/Serializable" (some 0) with
  accessFlags := 1537
  interfaces := #[]
  cf := some (fileOf pool4 2 #[] #[] 1537 4 #[] #[])
  fields := #[]
  methods := #[]
  instanceTypes := #[]
  staticTypes := #[]
  resolved := Array.replicate 8 none
  statics := none }

/-- the primitive byte -/
def k5 : Class := { plain "byte" none with kind := .primitive 'B', accessFlags := 0x411 }
/-- [B -/
def k6 : Class := { plain "[B" (some 0) with kind := .array 5 .byte, interfaces := #[3, 4], accessFlags := 1041 }

/-- the primitive int -/
def k7 : Class := { plain "int" none with kind := .primitive 'I', accessFlags := 0x411 }
/-- [I -/
def k8 : Class := { plain "[I" (some 0) with kind := .array 7 .int, interfaces := #[3, 4], accessFlags := 1041 }

def heap : Heap := #[]
def classes : Array Class := #[k0, k1, k2, k3, k4, k5, k6, k7, k8]
def interned : List (Array UInt16 × Addr) := []
def slotsUsed : Nat := 0
def theMethod : MethodId := ⟨1, 3⟩
def args0 : Array Value := #[.long 5, .int 3, .int 1]
def aboutOver (below : List Frame) : State where
  vm := { classes := classes, interned := interned.toArray }
  heap := heap
  slotsUsed := slotsUsed
  threads := #[{ frames := .invoking theMethod args0 :: below }]
def below0 : List Frame := [.native { method := ⟨0, 0⟩, args := #[] }]
def about1 : State := aboutOver below0
def p0 : Program := .bare "" "" ""
def e0 : Env := launch0.env 0 0 0
theorem w_frames : about1.frames = Frame.invoking theMethod args0 :: below0 := rfl
set_option maxRecDepth 65536 in
theorem w_args : argsFit about1.vm theMethod args0 = true := by decide +kernel
set_option maxRecDepth 65536 in
theorem w_heap : heapFits about1 = true := by decide +kernel
set_option maxRecDepth 65536 in
theorem w_runnable : about1.curStatus? = some .runnable := by decide +kernel
set_option maxRecDepth 65536 in
theorem w_alone : about1.alone = true := by decide +kernel
set_option maxRecDepth 65536 in
theorem w_named : about1.methodNamed? x = some theMethod := by decide +kernel
set_option maxRecDepth 65536 in
theorem w_hears : about1.hears theMethod below0 = true := by decide +kernel
set_option maxRecDepth 65536 in
theorem w_ripe : about1.ripe theMethod args0 below0 = true := by decide +kernel
theorem w_running : about1.status = .running := rfl
set_option maxRecDepth 65536 in
theorem w_room : about1.hasRoom e0.platform room_1 = true :=
  launch0.hasRoom_least _ room_1 (by decide +kernel) (by decide +kernel) (by decide +kernel) (by decide +kernel) (by decide +kernel) (by decide +kernel)
theorem allAtoms_all (ts : List Jvm.Cond) (a : Array Jvm.Value) (st : Jvm.State) : (allAtoms ts).before a st = ts.all (fun c => c.before a st) := by
  induction ts with
  | nil => rfl
  | cons c t ih =>
    show (Jvm.Cond.and c (allAtoms t)).before a st = _
    rw [Jvm.Cond.before_and, ih, List.all_cons]
def words1 : List Jvm.Cond := Jvm.Cond.code x code maxLocals ret :: tables_1
/-- a 'code' word, met by the world's own term for the bytes: nothing is compared byte by byte -/
theorem code_word {y : MethodName} {bytes : ByteArray} {mx : Nat} {rt : Option FieldType} {a : Array Value} {s : State} {m : MethodId} {meth : Method} {c : Code} (h1 : s.methodNamed? y = some m) (h2 : s.vm.method? m = some meth) (h3 : meth.code = some c) (h4 : c.code = bytes)
    (h5 : (c.maxLocals == mx && c.exceptionTable.isEmpty && decide (c.maxStack ≤ mostOperands) && decide (meth.sig.returnType = rt) && !meth.locks && decide (parseMethodDescriptor y.desc = some meth.sig)) = true) : (Jvm.Cond.code y bytes mx rt).before a s = true := by
  simp only [Bool.and_eq_true, beq_iff_eq, Bool.not_eq_true', decide_eq_true_eq] at h5
  obtain ⟨⟨⟨⟨⟨g1, g2⟩, g3⟩, g4⟩, g5⟩, g6⟩ := h5
  simp [Cond.before, Cond.holds, Cond.value, h1, h2, h3, h4, g1, g2, g3, g4, g5, g6]
def isCode : Jvm.Cond → Bool
  | .code _ _ _ _ => true
  | _ => false
theorem all_split {L : List Jvm.Cond} {P : Jvm.Cond → Bool} (h1 : L.all (fun c => isCode c || P c) = true) (h2 : ∀ c ∈ L.filter isCode, P c = true) : L.all P = true := by
  refine List.all_eq_true.mpr fun c hc => ?_
  have h := List.all_eq_true.mp h1 c hc
  rcases Bool.eq_false_or_eq_true (isCode c) with hi | hi
  · exact h2 c (List.mem_filter.mpr ⟨hc, hi⟩)
  · simpa [hi] using h
set_option maxRecDepth 65536 in
theorem w_c0 : (Jvm.Cond.code x code maxLocals ret).before args0 about1 = true := code_word (m := ⟨1, 3⟩) (meth := k1m3) (c := k1c3) (by decide +kernel) rfl rfl rfl (by decide +kernel)
set_option maxRecDepth 65536 in
theorem w_c1 : (Jvm.Cond.code ({ cls := "com/example/loomwire/loomwire/chat/ChatIndexOfSpacePinLaw", name := "pick", desc := "(IJI)B" } : Jvm.MethodName) method_2_code (4 : Nat) (Option.some Jvm.ClassFile.FieldType.byte)).before args0 about1 = true := code_word (m := ⟨1, 1⟩) (meth := k1m1) (c := k1c1) (by decide +kernel) rfl rfl rfl (by decide +kernel)
set_option maxRecDepth 65536 in
theorem w_c2 : (Jvm.Cond.code ({ cls := "com/example/loomwire/loomwire/chat/ChatIndexOfSpacePinLaw", name := "hit", desc := "([BII)Z" } : Jvm.MethodName) method_3_code (3 : Nat) (Option.some Jvm.ClassFile.FieldType.boolean)).before args0 about1 = true := code_word (m := ⟨1, 2⟩) (meth := k1m2) (c := k1c2) (by decide +kernel) rfl rfl rfl (by decide +kernel)
set_option maxRecDepth 65536 in
theorem w_c3 : (Jvm.Cond.code ({ cls := "com/example/loomwire/loomwire/chat/Chat", name := "indexOfSpace", desc := "([BI)I" } : Jvm.MethodName) prog_17_method_14_code (3 : Nat) (Option.some Jvm.ClassFile.FieldType.int)).before args0 about1 = true := code_word (m := ⟨2, 1⟩) (meth := k2m1) (c := k2c1) (by decide +kernel) rfl rfl rfl (by decide +kernel)
def codes1 : List Jvm.Cond := [Jvm.Cond.code x code maxLocals ret, Jvm.Cond.code ({ cls := "com/example/loomwire/loomwire/chat/ChatIndexOfSpacePinLaw", name := "pick", desc := "(IJI)B" } : Jvm.MethodName) method_2_code (4 : Nat) (Option.some Jvm.ClassFile.FieldType.byte), Jvm.Cond.code ({ cls := "com/example/loomwire/loomwire/chat/ChatIndexOfSpacePinLaw", name := "hit", desc := "([BII)Z" } : Jvm.MethodName) method_3_code (3 : Nat) (Option.some Jvm.ClassFile.FieldType.boolean), Jvm.Cond.code ({ cls := "com/example/loomwire/loomwire/chat/Chat", name := "indexOfSpace", desc := "([BI)I" } : Jvm.MethodName) prog_17_method_14_code (3 : Nat) (Option.some Jvm.ClassFile.FieldType.int)]
set_option maxRecDepth 65536 in
theorem codes_eq : words1.filter isCode = codes1 := rfl
theorem w_codes : ∀ c ∈ words1.filter isCode, c.before args0 about1 = true := by
  rw [codes_eq]
  intro c hc
  simp only [codes1, List.mem_cons, List.not_mem_nil, or_false] at hc
  rcases hc with rfl | rfl | rfl | rfl
  · exact w_c0
  · exact w_c1
  · exact w_c2
  · exact w_c3
set_option maxRecDepth 65536 in
theorem w_t1 : words1.all (fun c => isCode c || c.before args0 about1) = true := by decide +kernel
theorem w_tables : (allAtoms (Jvm.Cond.code x code maxLocals ret :: tables_1)).before args0 about1 = true := by
  rw [allAtoms_all]
  show words1.all (fun c => c.before args0 about1) = true
  refine all_split ?_ w_codes
  rw [w_t1]
set_option maxRecDepth 65536 in
theorem w_case : (Jvm.Cond.and given_1 narrow_1).before args0 about1 = true := by decide +kernel
theorem w_applies : (headSpec (Jvm.Cond.code x code maxLocals ret :: tables_1) room_1).applies x e0.platform about1 = true :=
  (Spec.applies_iff w_frames).mpr ⟨w_running, w_runnable, w_alone, w_named, w_hears, w_ripe, w_room, w_tables⟩
theorem atStart : AtStart classFile x code maxLocals ret World_1 tables_1 room_1 Calls_1 rest_1 Pre_1 launch0 p0 e0 about1 theMethod args0 below0 :=
  ⟨lists_1, trivial, launch0.admits_env _ _ _, launch0.least_env, fairChoices_fair.cas, fairChoices_fair.clock, w_frames, w_args, w_heap, w_applies, trivial, trivial, w_case⟩
end start1
theorem witness_1 : WitnessClaimed_1 := ⟨start1.p0, start1.e0, start1.about1, start1.theMethod, start1.args0, start1.below0, start1.atStart⟩
end Jvm.Pilot.@@N@@
