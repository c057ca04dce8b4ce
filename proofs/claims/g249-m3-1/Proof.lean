import JvmDerived
import JvmDerived.Pilot.@@N@@Statement
import JvmDerived.Pilot.@@N@@Code
set_option linter.unusedVariables false
set_option linter.unusedSimpArgs false
namespace Jvm.Pilot.@@N@@
open Jvm Jvm.ClassFile Sem Op Lib Jvm.Free Jvm.Stand Jvm.LawKit Jvm.RoadKit Bundle Jvm.Pilot.@@N@@.Jvm.D
/-! 0. the frame of a walk: from state A the body comes to an end of which Q holds -/
def own_G (tb : Tables) (e : Env) (below : List Frame) (s : State) (Q : Option Value → Heap → List Loc → Prop) (k n : Nat) (A : State) : Prop :=
  ∃ t o, Steps tb e below A t ∧ t.status = .running ∧ Ended t below o ∧ ∃ v L, o = .returned v ∧ Q v t.heap L ∧ FrameEnd s o t L k n
theorem own_step {tb : Tables} {e : Env} {below : List Frame} {s : State} {Q : Option Value → Heap → List Loc → Prop} {k n : Nat} {A B : State}
    (h : ∀ t, Steps tb e below B t → Steps tb e below A t) (g : own_G tb e below s Q k n B) : own_G tb e below s Q k n A := by
  obtain ⟨t, o, h1, h2⟩ := g
  exact ⟨t, o, h t h1, h2⟩
section Rets
variable {p : Program} {l : Launch} {e : Env} {R : Room} {s : State} {m : MethodId} {args : Array Value} {below : List Frame} {meth : Method} {c : Code} {T : State} {locs : List Loc} {cells slots : Nat} {Q : Option Value → Heap → List Loc → Prop} {k n : Nat}
theorem own_out (X : Stand p l e R s m args below meth c T locs cells slots) {v : Option Value} (hv : meth.sig.returnType = none → v = none) (hlk : meth.locks = false) {F : JFrame}
    (hs : ∀ fs, (∀ (f : JFrame) (acts : List Action), f.method = m → f.locked = none → f.entered = [] → (doReturn e (T.setTop f) acts v).1 = T.setFrames fs) → Steps p.tables e below (T.setTop F) (T.setFrames fs))
    (hk : cells ≤ k) (hn : slots ≤ n) (hQ : Q v T.heap locs) : own_G p.tables e below s Q k n (T.setTop F) := by
  obtain ⟨fs, hr, hrun, hended, hW, hsame⟩ := X.leave hv hlk
  exact ⟨_, _, hs fs hr, hrun, hended, _, _, rfl, hQ, ⟨_, rfl⟩, hW, hsame.mono hk hn⟩
theorem own_retV (X : Stand p l e R s m args below meth c T locs cells slots) (hx : p.tables.exec = Jvm.exec) (hlk : meth.locks = false) {pc : Nat} {Ls : Array Slot} (hret : meth.sig.returnType = none) (hd : decode c.code pc = .ok (.return_, 1))
    (hk : cells ≤ k) (hn : slots ≤ n) (hQ : Q none T.heap locs) : own_G p.tables e below s Q k n (T.setTop (mkF m pc Ls [])) :=
  own_out X (fun _ => rfl) hlk (fun fs hr => X.returnOut hx hret hd hr) hk hn hQ
theorem own_retN (X : Stand p l e R s m args below meth c T locs cells slots) (hx : p.tables.exec = Jvm.exec) (hlk : meth.locks = false) {pc : Nat} {Ls : Array Slot} {z : Int32} {t : FieldType} {rest : List Value} (hret : meth.sig.returnType = some t) (ht : t = .boolean ∨ t = .byte ∨ t = .char ∨ t = .short) (hd : decode c.code pc = .ok (.ireturn, 1))
    (hk : cells ≤ k) (hn : slots ≤ n) (hQ : Q (some (.int (nar t z))) T.heap locs) : own_G p.tables e below s Q k n (T.setTop (mkF m pc Ls (.int z :: rest))) :=
  own_out X (fun h => by rw [hret] at h; cases h) hlk (fun fs hr => retN X hx hret ht hd hr) hk hn hQ
theorem own_retI (X : Stand p l e R s m args below meth c T locs cells slots) (hx : p.tables.exec = Jvm.exec) (hlk : meth.locks = false) {pc : Nat} {Ls : Array Slot} {z : Int32} {rest : List Value} (hret : meth.sig.returnType = some .int) (hd : decode c.code pc = .ok (.ireturn, 1))
    (hk : cells ≤ k) (hn : slots ≤ n) (hQ : Q (some (.int z)) T.heap locs) : own_G p.tables e below s Q k n (T.setTop (mkF m pc Ls (.int z :: rest))) :=
  own_out X (fun h => by rw [hret] at h; cases h) hlk (fun fs hr => retOut X hx hret rfl (Or.inl ⟨rfl, Or.inl rfl, _, rfl⟩) hd hr) hk hn hQ
theorem own_retJ (X : Stand p l e R s m args below meth c T locs cells slots) (hx : p.tables.exec = Jvm.exec) (hlk : meth.locks = false) {pc : Nat} {Ls : Array Slot} {z : Int64} {rest : List Value} (hret : meth.sig.returnType = some .long) (hd : decode c.code pc = .ok (.lreturn, 1))
    (hk : cells ≤ k) (hn : slots ≤ n) (hQ : Q (some (.long z)) T.heap locs) : own_G p.tables e below s Q k n (T.setTop (mkF m pc Ls (.long z :: rest))) :=
  own_out X (fun h => by rw [hret] at h; cases h) hlk (fun fs hr => retOut X hx hret rfl (Or.inr (Or.inl ⟨rfl, rfl, _, rfl⟩)) hd hr) hk hn hQ
theorem own_retA (X : Stand p l e R s m args below meth c T locs cells slots) (hx : p.tables.exec = Jvm.exec) (hlk : meth.locks = false) {pc : Nat} {Ls : Array Slot} {a : Addr} {t : FieldType} {rest : List Value} (hret : meth.sig.returnType = some t) (hd : decode c.code pc = .ok (.areturn, 1)) (ht : t.isReference = true)
    (hk : cells ≤ k) (hn : slots ≤ n) (hQ : Q (some (.ref a)) T.heap locs) : own_G p.tables e below s Q k n (T.setTop (mkF m pc Ls (.ref a :: rest))) :=
  own_out X (fun h => by rw [hret] at h; cases h) hlk (fun fs hr => retOut X hx hret (by cases t <;> first | rfl | cases ht) (Or.inr (Or.inr (Or.inr (Or.inr ⟨rfl, ht, rfl⟩)))) hd hr) hk hn hQ
end Rets

theorem pd_0 : parseMethodDescriptor "(IZ)I" = some ⟨[.int, .boolean], some .int⟩ := by decide +kernel
/-! 1. the numbers -/
def own_dec (q z : Int32) : Int32 := if z = 0 then (q * 315653) >>> ((20 : Int32) &&& 31) else ((q * 315653) - 131007) >>> ((20 : Int32) &&& 31)
set_option maxRecDepth 65536 in
theorem own_tab0 : ∀ n : Nat, n < 2046 → (((n : Int) - 1074) * 315653) / 1048576 = (((n : Int) - 1074) * 661971961083) / 2199023255552 := by decide +kernel
set_option maxRecDepth 65536 in
theorem own_tab1 : ∀ n : Nat, n < 2046 → (((n : Int) - 1074) * 315653 - 131007) / 1048576 = (((n : Int) - 1074) * 661971961083 - 274743187321) / 2199023255552 := by decide +kernel
theorem own_num0 {x : Int} (h1 : -1074 ≤ x) (h2 : x ≤ 971) : (x * 315653) / 1048576 = (x * 661971961083) / 2199023255552 := by
  have h := own_tab0 (x + 1074).toNat (by omega)
  have e : (((x + 1074).toNat : Int) - 1074) = x := by omega
  rw [e] at h; exact h
theorem own_num1 {x : Int} (h1 : -1074 ≤ x) (h2 : x ≤ 971) : (x * 315653 - 131007) / 1048576 = (x * 661971961083 - 274743187321) / 2199023255552 := by
  have h := own_tab1 (x + 1074).toNat (by omega)
  have e : (((x + 1074).toNat : Int) - 1074) = x := by omega
  rw [e] at h; exact h
theorem own_eq0 {q : Int32} (h1 : -1074 ≤ q.toInt) (h2 : q.toInt ≤ 971) : lcmpW ((own_dec q 0).toInt64) ((q.toInt64 * 661971961083) >>> ((41 : Int32) &&& 0x3f).toInt64) = 0 := by
  refine (lw_eq _ _).mpr (Int64.toInt_inj.mp ?_)
  rw [c_i2l, c_lshr _ 41 41 (by decide)]
  show ((q * 315653) >>> ((20 : Int32) &&& 31)).toInt = _
  rw [c_ishr _ 20 20 (by decide)]
  have a1 := c_imul q 315653
  have a2 := c_lmul q.toInt64 661971961083
  have r1 := rng32 (q * 315653)
  have r2 := rng64 (q.toInt64 * 661971961083)
  rw [c_i2l] at a2
  have k1 : (315653 : Int32).toInt = 315653 := by decide
  have k2 : (661971961083 : Int64).toInt = 661971961083 := by decide
  rw [k1] at a1; rw [k2] at a2
  have b1 : (q * 315653).toInt = q.toInt * 315653 := by omega
  have b2 : (q.toInt64 * 661971961083).toInt = q.toInt * 661971961083 := by omega
  rw [b1, b2]
  exact own_num0 h1 h2
theorem own_eq1 {q : Int32} (h1 : -1074 ≤ q.toInt) (h2 : q.toInt ≤ 971) : lcmpW ((own_dec q 1).toInt64) (((q.toInt64 * 661971961083) - 274743187321) >>> ((41 : Int32) &&& 0x3f).toInt64) = 0 := by
  refine (lw_eq _ _).mpr (Int64.toInt_inj.mp ?_)
  rw [c_i2l, c_lshr _ 41 41 (by decide)]
  show (((q * 315653) - 131007) >>> ((20 : Int32) &&& 31)).toInt = _
  rw [c_ishr _ 20 20 (by decide)]
  have a1 := c_imul q 315653
  have a2 := c_lmul q.toInt64 661971961083
  have a3 := c_isub (q * 315653) 131007
  have a4 := c_lsub (q.toInt64 * 661971961083) 274743187321
  have r1 := rng32 (q * 315653)
  have r2 := rng64 (q.toInt64 * 661971961083)
  have r3 := rng32 ((q * 315653) - 131007)
  have r4 := rng64 ((q.toInt64 * 661971961083) - 274743187321)
  rw [c_i2l] at a2
  have k1 : (315653 : Int32).toInt = 315653 := by decide
  have k2 : (661971961083 : Int64).toInt = 661971961083 := by decide
  have k3 : (131007 : Int32).toInt = 131007 := by decide
  have k4 : (274743187321 : Int64).toInt = 274743187321 := by decide
  rw [k1] at a1; rw [k2] at a2; rw [k3] at a3; rw [k4] at a4
  have b1 : (q * 315653).toInt = q.toInt * 315653 := by omega
  have b2 : (q.toInt64 * 661971961083).toInt = q.toInt * 661971961083 := by omega
  have b3 : ((q * 315653) - 131007).toInt = q.toInt * 315653 - 131007 := by omega
  have b4 : ((q.toInt64 * 661971961083) - 274743187321).toInt = q.toInt * 661971961083 - 274743187321 := by omega
  rw [b3, b4]
  exact own_num1 h1 h2
theorem own_q1 (a : Int32) : -1074 ≤ ((-1073 : Int32) + ((a &&& (2147483647 : Int32)) % (2045 : Int32))).toInt ∧ ((-1073 : Int32) + ((a &&& (2147483647 : Int32)) % (2045 : Int32))).toInt ≤ 971 := by
  have m := c_mask a 2147483647 31 (by decide) (by decide)
  have m2 := (c_irem (a &&& 2147483647) 2045 2045 (by decide)).1 (by omega)
  have s := c_iadd (-1073) ((a &&& (2147483647 : Int32)) % (2045 : Int32))
  have r := rng32 ((-1073 : Int32) + ((a &&& (2147483647 : Int32)) % (2045 : Int32)))
  have k : (-1073 : Int32).toInt = -1073 := by decide
  rw [k] at s
  omega
theorem own_q0 (a : Int32) : -1074 ≤ ((-1074 : Int32) + ((a &&& (2147483647 : Int32)) % (2046 : Int32))).toInt ∧ ((-1074 : Int32) + ((a &&& (2147483647 : Int32)) % (2046 : Int32))).toInt ≤ 971 := by
  have m := c_mask a 2147483647 31 (by decide) (by decide)
  have m2 := (c_irem (a &&& 2147483647) 2046 2046 (by decide)).1 (by omega)
  have s := c_iadd (-1074) ((a &&& (2147483647 : Int32)) % (2046 : Int32))
  have r := rng32 ((-1074 : Int32) + ((a &&& (2147483647 : Int32)) % (2046 : Int32)))
  have k : (-1074 : Int32).toInt = -1074 := by decide
  rw [k] at s
  omega
/-! 2. the walks -/
theorem d1_0 : decode prog_142_method_4_code 0 = .ok (.iload_n 1, 1) := by decide +kernel
theorem d1_1 : decode prog_142_method_4_code 1 = .ok (.ifCond .eq 16, 3) := by decide +kernel
theorem d1_4 : decode prog_142_method_4_code 4 = .ok (.iload_n 0, 1) := by decide +kernel
theorem d1_5 : decode prog_142_method_4_code 5 = .ok (.ldc 74, 2) := by decide +kernel
theorem d1_7 : decode prog_142_method_4_code 7 = .ok (.imul, 1) := by decide +kernel
theorem d1_8 : decode prog_142_method_4_code 8 = .ok (.ldc 75, 2) := by decide +kernel
theorem d1_10 : decode prog_142_method_4_code 10 = .ok (.isub, 1) := by decide +kernel
theorem d1_11 : decode prog_142_method_4_code 11 = .ok (.bipush 20, 2) := by decide +kernel
theorem d1_13 : decode prog_142_method_4_code 13 = .ok (.ishr, 1) := by decide +kernel
theorem d1_14 : decode prog_142_method_4_code 14 = .ok (.goto 10, 3) := by decide +kernel
theorem d1_17 : decode prog_142_method_4_code 17 = .ok (.iload_n 0, 1) := by decide +kernel
theorem d1_18 : decode prog_142_method_4_code 18 = .ok (.ldc 74, 2) := by decide +kernel
theorem d1_20 : decode prog_142_method_4_code 20 = .ok (.imul, 1) := by decide +kernel
theorem d1_21 : decode prog_142_method_4_code 21 = .ok (.bipush 20, 2) := by decide +kernel
theorem d1_23 : decode prog_142_method_4_code 23 = .ok (.ishr, 1) := by decide +kernel
theorem d1_24 : decode prog_142_method_4_code 24 = .ok (.ireturn, 1) := by decide +kernel
theorem pn_com_example_rimward_rimward_value_ShortestDecimal : plainName "com/example/rimward/rimward/value/ShortestDecimal" = true := by first | (simp [plainName, overriddenIn]; done) | decide +kernel
theorem ef_rm1 (m : MethodId) (x0 : Int32) (x1 : Int32) : entryFrame m #[(.int x0), (.int x1)] 2 = mkF m 0 #[.val (.int x0), .val (.int x1)] [] := by first | (simp [entryFrame, mkF, argsToLocals, Value.category]; done) | rfl
def QQ_rm1 (Z : State) (p0 : Int32) (p1 : Int32)  (h0 : Heap) (n0 : Nat) (v : Option Value) (h : Heap) (L : List Loc) : Prop := v = some (.int (own_dec p0 p1)) ∧ Fr n0 L ∧ h = h0
set_option maxRecDepth 65536 in
set_option maxHeartbeats 40000000 in
theorem rm1 (l : Launch) (Z : State) (a0 : Array Value) (hw : ∀ d ∈ tables_1, d.before a0 Z = true) (ws : List Jvm.Cond) (p0 : Int32) (p1 : Int32)  (h0 : Heap) (n0 : Nat) (Z0 : n0 ≤ h0.size)  :
    MetFree l (⟨"com/example/rimward/rimward/value/ShortestDecimal", "decimalExponent", "(IZ)I"⟩ : MethodName) (head1 (Jvm.Cond.code (⟨"com/example/rimward/rimward/value/ShortestDecimal", "decimalExponent", "(IZ)I"⟩ : MethodName) prog_142_method_4_code 2 (some .int) :: ws) ({ frames := 0, cells := 0, slots := 0, locals := 0 } : Room)) (fun a U => a = #[(.int p0), (.int p1)] ∧ Z.Warmed39 U.vm ∧ U.heap = h0) (fun _ _ _ _ _ => True) (fun _ U o U' => ∃ v L, o = .returned v ∧ (QQ_rm1 Z p0 p1 h0 n0) v U'.heap L ∧ FrameEnd U o U' L ({ frames := 0, cells := 0, slots := 0, locals := 0 } : Room).cells ({ frames := 0, cells := 0, slots := 0, locals := 0 } : Room).slots) := by
  refine MetFree.of_bodySF (plainFor_of_name pn_com_example_rimward_rimward_value_ShortestDecimal) hisR ?_
  intro p e s m args below meth c s₁ Bd hml0 hP hK
  obtain ⟨rfl, hZ, hh⟩ := hP
  have hx := Bd.exec
  have hby := Bd.bytes
  have hlk : meth.locks = false := BodyLoose.notSynchronized Bd
  have hml : c.maxLocals = 2 := hml0
  have hown : s.vm.findClass "com/example/rimward/rimward/value/ShortestDecimal" = some m.cls := findClass_of_methodNamed Bd.named
  have hnm := (name_of_methodNamed Bd.named Bd.method).1
  have X0 : Stand p l e ({ frames := 0, cells := 0, slots := 0, locals := 0 } : Room) s m #[(.int p0), (.int p1)] below meth c s₁ [] 0 0 := Stand.of_body Bd
  have e0 : s₁.heap = h0 := by rw [← hh, Bd.state]; rfl
  have N0 := Fr.nil n0
  show own_G p.tables e below s (QQ_rm1 Z p0 p1 h0 n0) ({ frames := 0, cells := 0, slots := 0, locals := 0 } : Room).cells ({ frames := 0, cells := 0, slots := 0, locals := 0 } : Room).slots (s₁.setTop (entryFrame m #[(.int p0), (.int p1)] 2))
  refine own_step (B := s₁.setTop (mkF m 0 #[.val (.int p0), .val (.int p1)] [])) (fun t k => castTop (ef_rm1 m p0 p1) k) ?_
  refine own_step (B := s₁.setTop (mkF m 1 #[.val (.int p0), .val (.int p1)] [(.int p1)])) (fun t k => XS.iloadN X0.here hx rfl (hb hby d1_0) rfl k) ?_
  by_cases hc1 : p1 = (0 : Int32)
  · skip
    refine own_step (B := s₁.setTop (mkF m 17 #[.val (.int p0), .val (.int p1)] [])) (fun t k => XS.ifYes X0.here hx rfl (pc0 := 1) (pc' := 17) rfl (hb hby d1_1) rfl ((if0 _ _).trans (teq hc1).1) (by decide) (by decide) k) ?_
    refine own_step (B := s₁.setTop (mkF m 18 #[.val (.int p0), .val (.int p1)] [(.int p0)])) (fun t k => XS.iloadN X0.here hx rfl (hb hby d1_17) rfl k) ?_
    refine own_step (B := s₁.setTop (mkF m 20 #[.val (.int p0), .val (.int p1)] [(.int (315653 : Int32)), (.int p0)])) (fun t k => X0.ldcInt hx hown (mvT hZ (hw _ (List.mem_of_getElem? (i := 5) rfl))) (g := (mkF m 18 #[.val (.int p0), .val (.int p1)] [(.int p0)])) rfl (hb hby d1_18) t k) ?_
    refine own_step (B := s₁.setTop (mkF m 21 #[.val (.int p0), .val (.int p1)] [(.int (p0 * (315653 : Int32)))])) (fun t k => XS.imul X0.here hx rfl (hb hby d1_20) rfl k) ?_
    refine own_step (B := s₁.setTop (mkF m 23 #[.val (.int p0), .val (.int p1)] [(.int (20 : Int32)), (.int (p0 * (315653 : Int32)))])) (fun t k => XS.bipush X0.here hx rfl (hb hby d1_21) k) ?_
    refine own_step (B := s₁.setTop (mkF m 24 #[.val (.int p0), .val (.int p1)] [(.int ((p0 * (315653 : Int32)) >>> ((20 : Int32) &&& 31)))])) (fun t k => XS.ishr X0.here hx rfl (hb hby d1_23) rfl k) ?_
    exact own_retI X0 hx hlk Bd.returns (hb hby d1_24) (by decide) (by decide) (by exact ⟨congrArg (fun z => some (Value.int z)) (if_pos hc1).symm, N0, e0⟩)
  · skip
    refine own_step (B := s₁.setTop (mkF m 4 #[.val (.int p0), .val (.int p1)] [])) (fun t k => XS.ifNo X0.here hx rfl (hb hby d1_1) rfl ((if0 _ _).trans (feq hc1).1) k) ?_
    refine own_step (B := s₁.setTop (mkF m 5 #[.val (.int p0), .val (.int p1)] [(.int p0)])) (fun t k => XS.iloadN X0.here hx rfl (hb hby d1_4) rfl k) ?_
    refine own_step (B := s₁.setTop (mkF m 7 #[.val (.int p0), .val (.int p1)] [(.int (315653 : Int32)), (.int p0)])) (fun t k => X0.ldcInt hx hown (mvT hZ (hw _ (List.mem_of_getElem? (i := 5) rfl))) (g := (mkF m 5 #[.val (.int p0), .val (.int p1)] [(.int p0)])) rfl (hb hby d1_5) t k) ?_
    refine own_step (B := s₁.setTop (mkF m 8 #[.val (.int p0), .val (.int p1)] [(.int (p0 * (315653 : Int32)))])) (fun t k => XS.imul X0.here hx rfl (hb hby d1_7) rfl k) ?_
    refine own_step (B := s₁.setTop (mkF m 10 #[.val (.int p0), .val (.int p1)] [(.int (131007 : Int32)), (.int (p0 * (315653 : Int32)))])) (fun t k => X0.ldcInt hx hown (mvT hZ (hw _ (List.mem_of_getElem? (i := 6) rfl))) (g := (mkF m 8 #[.val (.int p0), .val (.int p1)] [(.int (p0 * (315653 : Int32)))])) rfl (hb hby d1_8) t k) ?_
    refine own_step (B := s₁.setTop (mkF m 11 #[.val (.int p0), .val (.int p1)] [(.int ((p0 * (315653 : Int32)) - (131007 : Int32)))])) (fun t k => XS.isub X0.here hx rfl (hb hby d1_10) rfl k) ?_
    refine own_step (B := s₁.setTop (mkF m 13 #[.val (.int p0), .val (.int p1)] [(.int (20 : Int32)), (.int ((p0 * (315653 : Int32)) - (131007 : Int32)))])) (fun t k => XS.bipush X0.here hx rfl (hb hby d1_11) k) ?_
    refine own_step (B := s₁.setTop (mkF m 14 #[.val (.int p0), .val (.int p1)] [(.int (((p0 * (315653 : Int32)) - (131007 : Int32)) >>> ((20 : Int32) &&& 31)))])) (fun t k => XS.ishr X0.here hx rfl (hb hby d1_13) rfl k) ?_
    refine own_step (B := s₁.setTop (mkF m 24 #[.val (.int p0), .val (.int p1)] [(.int (((p0 * (315653 : Int32)) - (131007 : Int32)) >>> ((20 : Int32) &&& 31)))])) (fun t k => XS.goto X0.here hx rfl (pc0 := 14) (pc' := 24) rfl (hb hby d1_14) (by decide) (by decide) k) ?_
    exact own_retI X0 hx hlk Bd.returns (hb hby d1_24) (by decide) (by decide) (by exact ⟨congrArg (fun z => some (Value.int z)) (if_neg hc1).symm, N0, e0⟩)
theorem pn_com_example_rimward_rimward_value_ShortestDecimalDecimalExponentPinLaw : plainName "com/example/rimward/rimward/value/ShortestDecimalDecimalExponentPinLaw" = true := by first | (simp [plainName, overriddenIn]; done) | decide +kernel
theorem ef_rm0 (m : MethodId) (x0 : Int32) (x1 : Int32) : entryFrame m #[(.int x0), (.int x1)] maxLocals = mkF m 0 #[.val (.int x0), .val (.int x1), .unset, .unset, .unset, .unset, .unset, .unset, .unset] [] := by first | (simp [entryFrame, mkF, argsToLocals, Value.category, maxLocals]; done) | rfl
def QQ_rm0 (Z : State) (p0 : Int32) (p1 : Int32)  (h0 : Heap) (n0 : Nat) (v : Option Value) (h : Heap) (L : List Loc) : Prop := v = some (.int 1) ∧ Fr n0 L
set_option maxRecDepth 65536 in
set_option maxHeartbeats 40000000 in
theorem rm0 (l : Launch) (Z : State) (a0 : Array Value) (hw : ∀ d ∈ tables_1, d.before a0 Z = true) (ws : List Jvm.Cond) (p0 : Int32) (p1 : Int32)  (h0 : Heap) (n0 : Nat) (Z0 : n0 ≤ h0.size)  :
    MetFree l x (head1 (Jvm.Cond.code x code maxLocals ret :: ws) room_1) (fun a U => a = #[(.int p0), (.int p1)] ∧ Z.Warmed39 U.vm ∧ U.heap = h0) (fun _ _ _ _ _ => True) (fun _ U o U' => ∃ v L, o = .returned v ∧ (QQ_rm0 Z p0 p1 h0 n0) v U'.heap L ∧ FrameEnd U o U' L room_1.cells room_1.slots) := by
  refine MetFree.of_bodySF (plainFor_of_name pn_com_example_rimward_rimward_value_ShortestDecimalDecimalExponentPinLaw) hisR ?_
  intro p e s m args below meth c s₁ Bd hml0 hP hK
  obtain ⟨rfl, hZ, hh⟩ := hP
  have hx := Bd.exec
  have hby := Bd.bytes
  have hlk : meth.locks = false := BodyLoose.notSynchronized Bd
  have hml : c.maxLocals = 9 := hml0
  have hown : s.vm.findClass "com/example/rimward/rimward/value/ShortestDecimalDecimalExponentPinLaw" = some m.cls := findClass_of_methodNamed Bd.named
  have hnm := (name_of_methodNamed Bd.named Bd.method).1
  have X0 : Stand p l e room_1 s m #[(.int p0), (.int p1)] below meth c s₁ [] 0 0 := Stand.of_body Bd
  have e0 : s₁.heap = h0 := by rw [← hh, Bd.state]; rfl
  have N0 := Fr.nil n0
  show own_G p.tables e below s (QQ_rm0 Z p0 p1 h0 n0) room_1.cells room_1.slots (s₁.setTop (entryFrame m #[(.int p0), (.int p1)] maxLocals))
  refine own_step (B := s₁.setTop (mkF m 0 #[.val (.int p0), .val (.int p1), .unset, .unset, .unset, .unset, .unset, .unset, .unset] [])) (fun t k => castTop (ef_rm0 m p0 p1) k) ?_
  refine own_step (B := s₁.setTop (mkF m 1 #[.val (.int p0), .val (.int p1), .unset, .unset, .unset, .unset, .unset, .unset, .unset] [(.int p1)])) (fun t k => XS.iloadN X0.here hx rfl (hb hby at_0) rfl k) ?_
  refine own_step (B := s₁.setTop (mkF m 2 #[.val (.int p0), .val (.int p1), .unset, .unset, .unset, .unset, .unset, .unset, .unset] [(.int (1 : Int32)), (.int p1)])) (fun t k => XS.iconst X0.here hx rfl (hb hby at_1) k) ?_
  refine own_step (B := s₁.setTop (mkF m 3 #[.val (.int p0), .val (.int p1), .unset, .unset, .unset, .unset, .unset, .unset, .unset] [(.int (p1 &&& (1 : Int32)))])) (fun t k => XS.iand X0.here hx rfl (hb hby at_2) rfl k) ?_
  by_cases hc3 : (p1 &&& (1 : Int32)) = (0 : Int32)
  · skip
    refine own_step (B := s₁.setTop (mkF m 10 #[.val (.int p0), .val (.int p1), .unset, .unset, .unset, .unset, .unset, .unset, .unset] [])) (fun t k => XS.ifYes X0.here hx rfl (pc0 := 3) (pc' := 10) rfl (hb hby at_3) rfl ((if0 _ _).trans (teq hc3).1) (by decide) (by decide) k) ?_
    refine own_step (B := s₁.setTop (mkF m 11 #[.val (.int p0), .val (.int p1), .unset, .unset, .unset, .unset, .unset, .unset, .unset] [(.int (0 : Int32))])) (fun t k => XS.iconst X0.here hx rfl (hb hby at_10) k) ?_
    refine own_step (B := s₁.setTop (mkF m 12 #[.val (.int p0), .val (.int p1), .val (.int (0 : Int32)), .unset, .unset, .unset, .unset, .unset, .unset] [])) (fun t k => XS.istoreN X0.here hx rfl (hb hby at_11) rfl (l' := #[.val (.int p0), .val (.int p1), .val (.int (0 : Int32)), .unset, .unset, .unset, .unset, .unset, .unset]) rfl k) ?_
    refine own_step (B := s₁.setTop (mkF m 13 #[.val (.int p0), .val (.int p1), .val (.int (0 : Int32)), .unset, .unset, .unset, .unset, .unset, .unset] [(.int (0 : Int32))])) (fun t k => XS.iloadN X0.here hx rfl (hb hby at_12) rfl k) ?_
    refine own_step (B := s₁.setTop (mkF m 32 #[.val (.int p0), .val (.int p1), .val (.int (0 : Int32)), .unset, .unset, .unset, .unset, .unset, .unset] [])) (fun t k => XS.ifYes X0.here hx rfl (pc0 := 13) (pc' := 32) rfl (hb hby at_13) rfl ((if0 _ _).trans (teq rfl).1) (by decide) (by decide) k) ?_
    refine own_step (B := s₁.setTop (mkF m 35 #[.val (.int p0), .val (.int p1), .val (.int (0 : Int32)), .unset, .unset, .unset, .unset, .unset, .unset] [(.int (-1074 : Int32))])) (fun t k => XS.sipush X0.here hx rfl (hb hby at_32) k) ?_
    refine own_step (B := s₁.setTop (mkF m 36 #[.val (.int p0), .val (.int p1), .val (.int (0 : Int32)), .unset, .unset, .unset, .unset, .unset, .unset] [(.int p0), (.int (-1074 : Int32))])) (fun t k => XS.iloadN X0.here hx rfl (hb hby at_35) rfl k) ?_
    refine own_step (B := s₁.setTop (mkF m 38 #[.val (.int p0), .val (.int p1), .val (.int (0 : Int32)), .unset, .unset, .unset, .unset, .unset, .unset] [(.int (2147483647 : Int32)), (.int p0), (.int (-1074 : Int32))])) (fun t k => X0.ldcInt hx hown (mvT hZ (hw _ (List.mem_of_getElem? (i := 0) rfl))) (g := (mkF m 36 #[.val (.int p0), .val (.int p1), .val (.int (0 : Int32)), .unset, .unset, .unset, .unset, .unset, .unset] [(.int p0), (.int (-1074 : Int32))])) rfl (hb hby at_36) t k) ?_
    refine own_step (B := s₁.setTop (mkF m 39 #[.val (.int p0), .val (.int p1), .val (.int (0 : Int32)), .unset, .unset, .unset, .unset, .unset, .unset] [(.int (p0 &&& (2147483647 : Int32))), (.int (-1074 : Int32))])) (fun t k => XS.iand X0.here hx rfl (hb hby at_38) rfl k) ?_
    refine own_step (B := s₁.setTop (mkF m 42 #[.val (.int p0), .val (.int p1), .val (.int (0 : Int32)), .unset, .unset, .unset, .unset, .unset, .unset] [(.int (2046 : Int32)), (.int (p0 &&& (2147483647 : Int32))), (.int (-1074 : Int32))])) (fun t k => XS.sipush X0.here hx rfl (hb hby at_39) k) ?_
    refine own_step (B := s₁.setTop (mkF m 43 #[.val (.int p0), .val (.int p1), .val (.int (0 : Int32)), .unset, .unset, .unset, .unset, .unset, .unset] [(.int ((p0 &&& (2147483647 : Int32)) % (2046 : Int32))), (.int (-1074 : Int32))])) (fun t k => iremM X0 hx rfl (hb hby at_42) rfl (by decide) k) ?_
    refine own_step (B := s₁.setTop (mkF m 44 #[.val (.int p0), .val (.int p1), .val (.int (0 : Int32)), .unset, .unset, .unset, .unset, .unset, .unset] [(.int ((-1074 : Int32) + ((p0 &&& (2147483647 : Int32)) % (2046 : Int32))))])) (fun t k => XS.iadd X0.here hx rfl (hb hby at_43) rfl k) ?_
    refine own_step (B := s₁.setTop (mkF m 45 #[.val (.int p0), .val (.int p1), .val (.int (0 : Int32)), .val (.int ((-1074 : Int32) + ((p0 &&& (2147483647 : Int32)) % (2046 : Int32)))), .unset, .unset, .unset, .unset, .unset] [])) (fun t k => XS.istoreN X0.here hx rfl (hb hby at_44) rfl (l' := #[.val (.int p0), .val (.int p1), .val (.int (0 : Int32)), .val (.int ((-1074 : Int32) + ((p0 &&& (2147483647 : Int32)) % (2046 : Int32)))), .unset, .unset, .unset, .unset, .unset]) rfl k) ?_
    obtain ⟨q, e_q⟩ : ∃ z, z = ((-1074 : Int32) + ((p0 &&& (2147483647 : Int32)) % (2046 : Int32))) := ⟨_, rfl⟩
    have hq : -1074 ≤ q.toInt ∧ q.toInt ≤ 971 := by rw [e_q]; exact own_q0 p0
    rw [← e_q]
    refine own_step (B := s₁.setTop (mkF m 46 #[.val (.int p0), .val (.int p1), .val (.int (0 : Int32)), .val (.int q), .unset, .unset, .unset, .unset, .unset] [(.int q)])) (fun t k => XS.iloadN X0.here hx rfl (hb hby at_45) rfl k) ?_
    refine own_step (B := s₁.setTop (mkF m 47 #[.val (.int p0), .val (.int p1), .val (.int (0 : Int32)), .val (.int q), .unset, .unset, .unset, .unset, .unset] [(.int (0 : Int32)), (.int q)])) (fun t k => XS.iloadN X0.here hx rfl (hb hby at_46) rfl k) ?_
    obtain ⟨_, _, ⟨T1, L1, k1, n1⟩, -, X1, ⟨Lc1, hQ1, l1, y1, z1⟩, st1⟩ := Jvm.LawKit.callS X0 hx (y := (⟨"com/example/rimward/rimward/value/ShortestDecimal", "decimalExponent", "(IZ)I"⟩ : MethodName)) hown (mvT hZ (hw _ (List.mem_of_getElem? (i := 1) rfl))) (mvT hZ (hw _ (List.mem_of_getElem? (i := 2) rfl))) (mvT hZ (hw _ (List.mem_of_getElem? (i := 3) rfl))) (mvT hZ (hw _ (List.mem_of_getElem? (i := 4) rfl))) (by decide) (backOf (W := 0) (rm1 l Z a0 hw [] q (0 : Int32)  h0 n0 Z0 ) hZ (hw _ (List.mem_of_getElem? (i := 4) rfl)) (hw _ (List.mem_of_getElem? (i := 3) rfl)) (by decide) (by decide)) (g := (mkF m 47 #[.val (.int p0), .val (.int p1), .val (.int (0 : Int32)), .val (.int q), .unset, .unset, .unset, .unset, .unset] [(.int (0 : Int32)), (.int q)])) rfl (by rw [hml]; rfl) (argsL := [(.int q), (.int (0 : Int32))]) (rest := []) (lenOf pd_0 rfl) rfl (by show 2 * 0 + _ ≤ _; exact Nat.le_of_eq rfl) (hb hby at_47) (fun _ _ => ⟨rfl, e0, (by decide : 0 + 0 ≤ _), (by decide : 0 + 0 ≤ _)⟩)
    dsimp only [Pt.U, Pt.locs, Pt.cells, Pt.slots] at X1 l1 y1 z1 st1 hQ1
    subst l1 y1 z1
    obtain ⟨rfl, N1q, e1⟩ := hQ1
    have N0 := Fr.app N0 N1q
    refine own_step (B := T1.setTop (mkF m 50 #[.val (.int p0), .val (.int p1), .val (.int (0 : Int32)), .val (.int q), .unset, .unset, .unset, .unset, .unset] [(.int (own_dec q (0 : Int32)))])) (fun t k => st1 t k) ?_
    refine own_step (B := T1.setTop (mkF m 52 #[.val (.int p0), .val (.int p1), .val (.int (0 : Int32)), .val (.int q), .val (.int (own_dec q (0 : Int32))), .unset, .unset, .unset, .unset] [])) (fun t k => XS.istore X1.here hx rfl (hb hby at_50) rfl (l' := #[.val (.int p0), .val (.int p1), .val (.int (0 : Int32)), .val (.int q), .val (.int (own_dec q (0 : Int32))), .unset, .unset, .unset, .unset]) rfl k) ?_
    refine own_step (B := T1.setTop (mkF m 53 #[.val (.int p0), .val (.int p1), .val (.int (0 : Int32)), .val (.int q), .val (.int (own_dec q (0 : Int32))), .unset, .unset, .unset, .unset] [(.int q)])) (fun t k => XS.iloadN X1.here hx rfl (hb hby at_52) rfl k) ?_
    refine own_step (B := T1.setTop (mkF m 54 #[.val (.int p0), .val (.int p1), .val (.int (0 : Int32)), .val (.int q), .val (.int (own_dec q (0 : Int32))), .unset, .unset, .unset, .unset] [(.long (q.toInt64))])) (fun t k => XS.i2l X1.here hx rfl (hb hby at_53) rfl k) ?_
    refine own_step (B := T1.setTop (mkF m 57 #[.val (.int p0), .val (.int p1), .val (.int (0 : Int32)), .val (.int q), .val (.int (own_dec q (0 : Int32))), .unset, .unset, .unset, .unset] [(.long (661971961083 : Int64)), (.long (q.toInt64))])) (fun t k => X1.ldc2Long hx hown (mvT hZ (hw _ (List.mem_of_getElem? (i := 7) rfl))) (g := (mkF m 54 #[.val (.int p0), .val (.int p1), .val (.int (0 : Int32)), .val (.int q), .val (.int (own_dec q (0 : Int32))), .unset, .unset, .unset, .unset] [(.long (q.toInt64))])) rfl (hb hby at_54) t k) ?_
    refine own_step (B := T1.setTop (mkF m 58 #[.val (.int p0), .val (.int p1), .val (.int (0 : Int32)), .val (.int q), .val (.int (own_dec q (0 : Int32))), .unset, .unset, .unset, .unset] [(.long ((q.toInt64) * (661971961083 : Int64)))])) (fun t k => XS.lmul X1.here hx rfl (hb hby at_57) rfl k) ?_
    refine own_step (B := T1.setTop (mkF m 60 #[.val (.int p0), .val (.int p1), .val (.int (0 : Int32)), .val (.int q), .val (.int (own_dec q (0 : Int32))), .val (.long ((q.toInt64) * (661971961083 : Int64))), .second, .unset, .unset] [])) (fun t k => XS.lstore X1.here hx rfl (hb hby at_58) rfl (l' := #[.val (.int p0), .val (.int p1), .val (.int (0 : Int32)), .val (.int q), .val (.int (own_dec q (0 : Int32))), .val (.long ((q.toInt64) * (661971961083 : Int64))), .second, .unset, .unset]) rfl k) ?_
    refine own_step (B := T1.setTop (mkF m 61 #[.val (.int p0), .val (.int p1), .val (.int (0 : Int32)), .val (.int q), .val (.int (own_dec q (0 : Int32))), .val (.long ((q.toInt64) * (661971961083 : Int64))), .second, .unset, .unset] [(.int (0 : Int32))])) (fun t k => XS.iloadN X1.here hx rfl (hb hby at_60) rfl k) ?_
    refine own_step (B := T1.setTop (mkF m 76 #[.val (.int p0), .val (.int p1), .val (.int (0 : Int32)), .val (.int q), .val (.int (own_dec q (0 : Int32))), .val (.long ((q.toInt64) * (661971961083 : Int64))), .second, .unset, .unset] [])) (fun t k => XS.ifYes X1.here hx rfl (pc0 := 61) (pc' := 76) rfl (hb hby at_61) rfl ((if0 _ _).trans (teq rfl).1) (by decide) (by decide) k) ?_
    refine own_step (B := T1.setTop (mkF m 78 #[.val (.int p0), .val (.int p1), .val (.int (0 : Int32)), .val (.int q), .val (.int (own_dec q (0 : Int32))), .val (.long ((q.toInt64) * (661971961083 : Int64))), .second, .unset, .unset] [(.long ((q.toInt64) * (661971961083 : Int64)))])) (fun t k => XS.lload X1.here hx rfl (hb hby at_76) rfl k) ?_
    refine own_step (B := T1.setTop (mkF m 80 #[.val (.int p0), .val (.int p1), .val (.int (0 : Int32)), .val (.int q), .val (.int (own_dec q (0 : Int32))), .val (.long ((q.toInt64) * (661971961083 : Int64))), .second, .unset, .unset] [(.int (41 : Int32)), (.long ((q.toInt64) * (661971961083 : Int64)))])) (fun t k => XS.bipush X1.here hx rfl (hb hby at_78) k) ?_
    refine own_step (B := T1.setTop (mkF m 81 #[.val (.int p0), .val (.int p1), .val (.int (0 : Int32)), .val (.int q), .val (.int (own_dec q (0 : Int32))), .val (.long ((q.toInt64) * (661971961083 : Int64))), .second, .unset, .unset] [(.long (((q.toInt64) * (661971961083 : Int64)) >>> ((41 : Int32) &&& 0x3f).toInt64))])) (fun t k => XS.lshr X1.here hx rfl (hb hby at_80) rfl k) ?_
    refine own_step (B := T1.setTop (mkF m 83 #[.val (.int p0), .val (.int p1), .val (.int (0 : Int32)), .val (.int q), .val (.int (own_dec q (0 : Int32))), .val (.long ((q.toInt64) * (661971961083 : Int64))), .second, .val (.long (((q.toInt64) * (661971961083 : Int64)) >>> ((41 : Int32) &&& 0x3f).toInt64)), .second] [])) (fun t k => XS.lstore X1.here hx rfl (hb hby at_81) rfl (l' := #[.val (.int p0), .val (.int p1), .val (.int (0 : Int32)), .val (.int q), .val (.int (own_dec q (0 : Int32))), .val (.long ((q.toInt64) * (661971961083 : Int64))), .second, .val (.long (((q.toInt64) * (661971961083 : Int64)) >>> ((41 : Int32) &&& 0x3f).toInt64)), .second]) rfl k) ?_
    refine own_step (B := T1.setTop (mkF m 85 #[.val (.int p0), .val (.int p1), .val (.int (0 : Int32)), .val (.int q), .val (.int (own_dec q (0 : Int32))), .val (.long ((q.toInt64) * (661971961083 : Int64))), .second, .val (.long (((q.toInt64) * (661971961083 : Int64)) >>> ((41 : Int32) &&& 0x3f).toInt64)), .second] [(.int (own_dec q (0 : Int32)))])) (fun t k => XS.iload X1.here hx rfl (hb hby at_83) rfl k) ?_
    refine own_step (B := T1.setTop (mkF m 86 #[.val (.int p0), .val (.int p1), .val (.int (0 : Int32)), .val (.int q), .val (.int (own_dec q (0 : Int32))), .val (.long ((q.toInt64) * (661971961083 : Int64))), .second, .val (.long (((q.toInt64) * (661971961083 : Int64)) >>> ((41 : Int32) &&& 0x3f).toInt64)), .second] [(.long ((own_dec q (0 : Int32)).toInt64))])) (fun t k => XS.i2l X1.here hx rfl (hb hby at_85) rfl k) ?_
    refine own_step (B := T1.setTop (mkF m 88 #[.val (.int p0), .val (.int p1), .val (.int (0 : Int32)), .val (.int q), .val (.int (own_dec q (0 : Int32))), .val (.long ((q.toInt64) * (661971961083 : Int64))), .second, .val (.long (((q.toInt64) * (661971961083 : Int64)) >>> ((41 : Int32) &&& 0x3f).toInt64)), .second] [(.long (((q.toInt64) * (661971961083 : Int64)) >>> ((41 : Int32) &&& 0x3f).toInt64)), (.long ((own_dec q (0 : Int32)).toInt64))])) (fun t k => XS.lload X1.here hx rfl (hb hby at_86) rfl k) ?_
    refine own_step (B := T1.setTop (mkF m 89 #[.val (.int p0), .val (.int p1), .val (.int (0 : Int32)), .val (.int q), .val (.int (own_dec q (0 : Int32))), .val (.long ((q.toInt64) * (661971961083 : Int64))), .second, .val (.long (((q.toInt64) * (661971961083 : Int64)) >>> ((41 : Int32) &&& 0x3f).toInt64)), .second] [(.int (lcmpW ((own_dec q (0 : Int32)).toInt64) (((q.toInt64) * (661971961083 : Int64)) >>> ((41 : Int32) &&& 0x3f).toInt64)))])) (fun t k => XS.lcmp X1.here hx rfl (hb hby at_88) rfl k) ?_
    refine own_step (B := T1.setTop (mkF m 92 #[.val (.int p0), .val (.int p1), .val (.int (0 : Int32)), .val (.int q), .val (.int (own_dec q (0 : Int32))), .val (.long ((q.toInt64) * (661971961083 : Int64))), .second, .val (.long (((q.toInt64) * (661971961083 : Int64)) >>> ((41 : Int32) &&& 0x3f).toInt64)), .second] [])) (fun t k => XS.ifNo X1.here hx rfl (hb hby at_89) rfl ((if0 _ _).trans (teq (own_eq0 hq.1 hq.2)).2) k) ?_
    refine own_step (B := T1.setTop (mkF m 93 #[.val (.int p0), .val (.int p1), .val (.int (0 : Int32)), .val (.int q), .val (.int (own_dec q (0 : Int32))), .val (.long ((q.toInt64) * (661971961083 : Int64))), .second, .val (.long (((q.toInt64) * (661971961083 : Int64)) >>> ((41 : Int32) &&& 0x3f).toInt64)), .second] [(.int (1 : Int32))])) (fun t k => XS.iconst X1.here hx rfl (hb hby at_92) k) ?_
    refine own_step (B := T1.setTop (mkF m 97 #[.val (.int p0), .val (.int p1), .val (.int (0 : Int32)), .val (.int q), .val (.int (own_dec q (0 : Int32))), .val (.long ((q.toInt64) * (661971961083 : Int64))), .second, .val (.long (((q.toInt64) * (661971961083 : Int64)) >>> ((41 : Int32) &&& 0x3f).toInt64)), .second] [(.int (1 : Int32))])) (fun t k => XS.goto X1.here hx rfl (pc0 := 93) (pc' := 97) rfl (hb hby at_93) (by decide) (by decide) k) ?_
    exact own_retN X1 hx hlk (t := .boolean) Bd.returns (by simp) (hb hby at_97) (by decide) (by decide) (by exact ⟨rfl, N0⟩)
  · skip
    refine own_step (B := s₁.setTop (mkF m 6 #[.val (.int p0), .val (.int p1), .unset, .unset, .unset, .unset, .unset, .unset, .unset] [])) (fun t k => XS.ifNo X0.here hx rfl (hb hby at_3) rfl ((if0 _ _).trans (feq hc3).1) k) ?_
    refine own_step (B := s₁.setTop (mkF m 7 #[.val (.int p0), .val (.int p1), .unset, .unset, .unset, .unset, .unset, .unset, .unset] [(.int (1 : Int32))])) (fun t k => XS.iconst X0.here hx rfl (hb hby at_6) k) ?_
    refine own_step (B := s₁.setTop (mkF m 11 #[.val (.int p0), .val (.int p1), .unset, .unset, .unset, .unset, .unset, .unset, .unset] [(.int (1 : Int32))])) (fun t k => XS.goto X0.here hx rfl (pc0 := 7) (pc' := 11) rfl (hb hby at_7) (by decide) (by decide) k) ?_
    refine own_step (B := s₁.setTop (mkF m 12 #[.val (.int p0), .val (.int p1), .val (.int (1 : Int32)), .unset, .unset, .unset, .unset, .unset, .unset] [])) (fun t k => XS.istoreN X0.here hx rfl (hb hby at_11) rfl (l' := #[.val (.int p0), .val (.int p1), .val (.int (1 : Int32)), .unset, .unset, .unset, .unset, .unset, .unset]) rfl k) ?_
    refine own_step (B := s₁.setTop (mkF m 13 #[.val (.int p0), .val (.int p1), .val (.int (1 : Int32)), .unset, .unset, .unset, .unset, .unset, .unset] [(.int (1 : Int32))])) (fun t k => XS.iloadN X0.here hx rfl (hb hby at_12) rfl k) ?_
    refine own_step (B := s₁.setTop (mkF m 16 #[.val (.int p0), .val (.int p1), .val (.int (1 : Int32)), .unset, .unset, .unset, .unset, .unset, .unset] [])) (fun t k => XS.ifNo X0.here hx rfl (hb hby at_13) rfl ((if0 _ _).trans (feq (by decide)).1) k) ?_
    refine own_step (B := s₁.setTop (mkF m 19 #[.val (.int p0), .val (.int p1), .val (.int (1 : Int32)), .unset, .unset, .unset, .unset, .unset, .unset] [(.int (-1073 : Int32))])) (fun t k => XS.sipush X0.here hx rfl (hb hby at_16) k) ?_
    refine own_step (B := s₁.setTop (mkF m 20 #[.val (.int p0), .val (.int p1), .val (.int (1 : Int32)), .unset, .unset, .unset, .unset, .unset, .unset] [(.int p0), (.int (-1073 : Int32))])) (fun t k => XS.iloadN X0.here hx rfl (hb hby at_19) rfl k) ?_
    refine own_step (B := s₁.setTop (mkF m 22 #[.val (.int p0), .val (.int p1), .val (.int (1 : Int32)), .unset, .unset, .unset, .unset, .unset, .unset] [(.int (2147483647 : Int32)), (.int p0), (.int (-1073 : Int32))])) (fun t k => X0.ldcInt hx hown (mvT hZ (hw _ (List.mem_of_getElem? (i := 0) rfl))) (g := (mkF m 20 #[.val (.int p0), .val (.int p1), .val (.int (1 : Int32)), .unset, .unset, .unset, .unset, .unset, .unset] [(.int p0), (.int (-1073 : Int32))])) rfl (hb hby at_20) t k) ?_
    refine own_step (B := s₁.setTop (mkF m 23 #[.val (.int p0), .val (.int p1), .val (.int (1 : Int32)), .unset, .unset, .unset, .unset, .unset, .unset] [(.int (p0 &&& (2147483647 : Int32))), (.int (-1073 : Int32))])) (fun t k => XS.iand X0.here hx rfl (hb hby at_22) rfl k) ?_
    refine own_step (B := s₁.setTop (mkF m 26 #[.val (.int p0), .val (.int p1), .val (.int (1 : Int32)), .unset, .unset, .unset, .unset, .unset, .unset] [(.int (2045 : Int32)), (.int (p0 &&& (2147483647 : Int32))), (.int (-1073 : Int32))])) (fun t k => XS.sipush X0.here hx rfl (hb hby at_23) k) ?_
    refine own_step (B := s₁.setTop (mkF m 27 #[.val (.int p0), .val (.int p1), .val (.int (1 : Int32)), .unset, .unset, .unset, .unset, .unset, .unset] [(.int ((p0 &&& (2147483647 : Int32)) % (2045 : Int32))), (.int (-1073 : Int32))])) (fun t k => iremM X0 hx rfl (hb hby at_26) rfl (by decide) k) ?_
    refine own_step (B := s₁.setTop (mkF m 28 #[.val (.int p0), .val (.int p1), .val (.int (1 : Int32)), .unset, .unset, .unset, .unset, .unset, .unset] [(.int ((-1073 : Int32) + ((p0 &&& (2147483647 : Int32)) % (2045 : Int32))))])) (fun t k => XS.iadd X0.here hx rfl (hb hby at_27) rfl k) ?_
    refine own_step (B := s₁.setTop (mkF m 29 #[.val (.int p0), .val (.int p1), .val (.int (1 : Int32)), .val (.int ((-1073 : Int32) + ((p0 &&& (2147483647 : Int32)) % (2045 : Int32)))), .unset, .unset, .unset, .unset, .unset] [])) (fun t k => XS.istoreN X0.here hx rfl (hb hby at_28) rfl (l' := #[.val (.int p0), .val (.int p1), .val (.int (1 : Int32)), .val (.int ((-1073 : Int32) + ((p0 &&& (2147483647 : Int32)) % (2045 : Int32)))), .unset, .unset, .unset, .unset, .unset]) rfl k) ?_
    refine own_step (B := s₁.setTop (mkF m 45 #[.val (.int p0), .val (.int p1), .val (.int (1 : Int32)), .val (.int ((-1073 : Int32) + ((p0 &&& (2147483647 : Int32)) % (2045 : Int32)))), .unset, .unset, .unset, .unset, .unset] [])) (fun t k => XS.goto X0.here hx rfl (pc0 := 29) (pc' := 45) rfl (hb hby at_29) (by decide) (by decide) k) ?_
    obtain ⟨q, e_q⟩ : ∃ z, z = ((-1073 : Int32) + ((p0 &&& (2147483647 : Int32)) % (2045 : Int32))) := ⟨_, rfl⟩
    have hq : -1074 ≤ q.toInt ∧ q.toInt ≤ 971 := by rw [e_q]; exact own_q1 p0
    rw [← e_q]
    refine own_step (B := s₁.setTop (mkF m 46 #[.val (.int p0), .val (.int p1), .val (.int (1 : Int32)), .val (.int q), .unset, .unset, .unset, .unset, .unset] [(.int q)])) (fun t k => XS.iloadN X0.here hx rfl (hb hby at_45) rfl k) ?_
    refine own_step (B := s₁.setTop (mkF m 47 #[.val (.int p0), .val (.int p1), .val (.int (1 : Int32)), .val (.int q), .unset, .unset, .unset, .unset, .unset] [(.int (1 : Int32)), (.int q)])) (fun t k => XS.iloadN X0.here hx rfl (hb hby at_46) rfl k) ?_
    obtain ⟨_, _, ⟨T2, L2, k2, n2⟩, -, X2, ⟨Lc2, hQ2, l2, y2, z2⟩, st2⟩ := Jvm.LawKit.callS X0 hx (y := (⟨"com/example/rimward/rimward/value/ShortestDecimal", "decimalExponent", "(IZ)I"⟩ : MethodName)) hown (mvT hZ (hw _ (List.mem_of_getElem? (i := 1) rfl))) (mvT hZ (hw _ (List.mem_of_getElem? (i := 2) rfl))) (mvT hZ (hw _ (List.mem_of_getElem? (i := 3) rfl))) (mvT hZ (hw _ (List.mem_of_getElem? (i := 4) rfl))) (by decide) (backOf (W := 0) (rm1 l Z a0 hw [] q (1 : Int32)  h0 n0 Z0 ) hZ (hw _ (List.mem_of_getElem? (i := 4) rfl)) (hw _ (List.mem_of_getElem? (i := 3) rfl)) (by decide) (by decide)) (g := (mkF m 47 #[.val (.int p0), .val (.int p1), .val (.int (1 : Int32)), .val (.int q), .unset, .unset, .unset, .unset, .unset] [(.int (1 : Int32)), (.int q)])) rfl (by rw [hml]; rfl) (argsL := [(.int q), (.int (1 : Int32))]) (rest := []) (lenOf pd_0 rfl) rfl (by show 2 * 0 + _ ≤ _; exact Nat.le_of_eq rfl) (hb hby at_47) (fun _ _ => ⟨rfl, e0, (by decide : 0 + 0 ≤ _), (by decide : 0 + 0 ≤ _)⟩)
    dsimp only [Pt.U, Pt.locs, Pt.cells, Pt.slots] at X2 l2 y2 z2 st2 hQ2
    subst l2 y2 z2
    obtain ⟨rfl, N2q, e2⟩ := hQ2
    have N0 := Fr.app N0 N2q
    refine own_step (B := T2.setTop (mkF m 50 #[.val (.int p0), .val (.int p1), .val (.int (1 : Int32)), .val (.int q), .unset, .unset, .unset, .unset, .unset] [(.int (own_dec q (1 : Int32)))])) (fun t k => st2 t k) ?_
    refine own_step (B := T2.setTop (mkF m 52 #[.val (.int p0), .val (.int p1), .val (.int (1 : Int32)), .val (.int q), .val (.int (own_dec q (1 : Int32))), .unset, .unset, .unset, .unset] [])) (fun t k => XS.istore X2.here hx rfl (hb hby at_50) rfl (l' := #[.val (.int p0), .val (.int p1), .val (.int (1 : Int32)), .val (.int q), .val (.int (own_dec q (1 : Int32))), .unset, .unset, .unset, .unset]) rfl k) ?_
    refine own_step (B := T2.setTop (mkF m 53 #[.val (.int p0), .val (.int p1), .val (.int (1 : Int32)), .val (.int q), .val (.int (own_dec q (1 : Int32))), .unset, .unset, .unset, .unset] [(.int q)])) (fun t k => XS.iloadN X2.here hx rfl (hb hby at_52) rfl k) ?_
    refine own_step (B := T2.setTop (mkF m 54 #[.val (.int p0), .val (.int p1), .val (.int (1 : Int32)), .val (.int q), .val (.int (own_dec q (1 : Int32))), .unset, .unset, .unset, .unset] [(.long (q.toInt64))])) (fun t k => XS.i2l X2.here hx rfl (hb hby at_53) rfl k) ?_
    refine own_step (B := T2.setTop (mkF m 57 #[.val (.int p0), .val (.int p1), .val (.int (1 : Int32)), .val (.int q), .val (.int (own_dec q (1 : Int32))), .unset, .unset, .unset, .unset] [(.long (661971961083 : Int64)), (.long (q.toInt64))])) (fun t k => X2.ldc2Long hx hown (mvT hZ (hw _ (List.mem_of_getElem? (i := 7) rfl))) (g := (mkF m 54 #[.val (.int p0), .val (.int p1), .val (.int (1 : Int32)), .val (.int q), .val (.int (own_dec q (1 : Int32))), .unset, .unset, .unset, .unset] [(.long (q.toInt64))])) rfl (hb hby at_54) t k) ?_
    refine own_step (B := T2.setTop (mkF m 58 #[.val (.int p0), .val (.int p1), .val (.int (1 : Int32)), .val (.int q), .val (.int (own_dec q (1 : Int32))), .unset, .unset, .unset, .unset] [(.long ((q.toInt64) * (661971961083 : Int64)))])) (fun t k => XS.lmul X2.here hx rfl (hb hby at_57) rfl k) ?_
    refine own_step (B := T2.setTop (mkF m 60 #[.val (.int p0), .val (.int p1), .val (.int (1 : Int32)), .val (.int q), .val (.int (own_dec q (1 : Int32))), .val (.long ((q.toInt64) * (661971961083 : Int64))), .second, .unset, .unset] [])) (fun t k => XS.lstore X2.here hx rfl (hb hby at_58) rfl (l' := #[.val (.int p0), .val (.int p1), .val (.int (1 : Int32)), .val (.int q), .val (.int (own_dec q (1 : Int32))), .val (.long ((q.toInt64) * (661971961083 : Int64))), .second, .unset, .unset]) rfl k) ?_
    refine own_step (B := T2.setTop (mkF m 61 #[.val (.int p0), .val (.int p1), .val (.int (1 : Int32)), .val (.int q), .val (.int (own_dec q (1 : Int32))), .val (.long ((q.toInt64) * (661971961083 : Int64))), .second, .unset, .unset] [(.int (1 : Int32))])) (fun t k => XS.iloadN X2.here hx rfl (hb hby at_60) rfl k) ?_
    refine own_step (B := T2.setTop (mkF m 64 #[.val (.int p0), .val (.int p1), .val (.int (1 : Int32)), .val (.int q), .val (.int (own_dec q (1 : Int32))), .val (.long ((q.toInt64) * (661971961083 : Int64))), .second, .unset, .unset] [])) (fun t k => XS.ifNo X2.here hx rfl (hb hby at_61) rfl ((if0 _ _).trans (feq (by decide)).1) k) ?_
    refine own_step (B := T2.setTop (mkF m 66 #[.val (.int p0), .val (.int p1), .val (.int (1 : Int32)), .val (.int q), .val (.int (own_dec q (1 : Int32))), .val (.long ((q.toInt64) * (661971961083 : Int64))), .second, .unset, .unset] [(.long ((q.toInt64) * (661971961083 : Int64)))])) (fun t k => XS.lload X2.here hx rfl (hb hby at_64) rfl k) ?_
    refine own_step (B := T2.setTop (mkF m 69 #[.val (.int p0), .val (.int p1), .val (.int (1 : Int32)), .val (.int q), .val (.int (own_dec q (1 : Int32))), .val (.long ((q.toInt64) * (661971961083 : Int64))), .second, .unset, .unset] [(.long (274743187321 : Int64)), (.long ((q.toInt64) * (661971961083 : Int64)))])) (fun t k => X2.ldc2Long hx hown (mvT hZ (hw _ (List.mem_of_getElem? (i := 8) rfl))) (g := (mkF m 66 #[.val (.int p0), .val (.int p1), .val (.int (1 : Int32)), .val (.int q), .val (.int (own_dec q (1 : Int32))), .val (.long ((q.toInt64) * (661971961083 : Int64))), .second, .unset, .unset] [(.long ((q.toInt64) * (661971961083 : Int64)))])) rfl (hb hby at_66) t k) ?_
    refine own_step (B := T2.setTop (mkF m 70 #[.val (.int p0), .val (.int p1), .val (.int (1 : Int32)), .val (.int q), .val (.int (own_dec q (1 : Int32))), .val (.long ((q.toInt64) * (661971961083 : Int64))), .second, .unset, .unset] [(.long (((q.toInt64) * (661971961083 : Int64)) - (274743187321 : Int64)))])) (fun t k => XS.lsub X2.here hx rfl (hb hby at_69) rfl k) ?_
    refine own_step (B := T2.setTop (mkF m 72 #[.val (.int p0), .val (.int p1), .val (.int (1 : Int32)), .val (.int q), .val (.int (own_dec q (1 : Int32))), .val (.long ((q.toInt64) * (661971961083 : Int64))), .second, .unset, .unset] [(.int (41 : Int32)), (.long (((q.toInt64) * (661971961083 : Int64)) - (274743187321 : Int64)))])) (fun t k => XS.bipush X2.here hx rfl (hb hby at_70) k) ?_
    refine own_step (B := T2.setTop (mkF m 73 #[.val (.int p0), .val (.int p1), .val (.int (1 : Int32)), .val (.int q), .val (.int (own_dec q (1 : Int32))), .val (.long ((q.toInt64) * (661971961083 : Int64))), .second, .unset, .unset] [(.long ((((q.toInt64) * (661971961083 : Int64)) - (274743187321 : Int64)) >>> ((41 : Int32) &&& 0x3f).toInt64))])) (fun t k => XS.lshr X2.here hx rfl (hb hby at_72) rfl k) ?_
    refine own_step (B := T2.setTop (mkF m 81 #[.val (.int p0), .val (.int p1), .val (.int (1 : Int32)), .val (.int q), .val (.int (own_dec q (1 : Int32))), .val (.long ((q.toInt64) * (661971961083 : Int64))), .second, .unset, .unset] [(.long ((((q.toInt64) * (661971961083 : Int64)) - (274743187321 : Int64)) >>> ((41 : Int32) &&& 0x3f).toInt64))])) (fun t k => XS.goto X2.here hx rfl (pc0 := 73) (pc' := 81) rfl (hb hby at_73) (by decide) (by decide) k) ?_
    refine own_step (B := T2.setTop (mkF m 83 #[.val (.int p0), .val (.int p1), .val (.int (1 : Int32)), .val (.int q), .val (.int (own_dec q (1 : Int32))), .val (.long ((q.toInt64) * (661971961083 : Int64))), .second, .val (.long ((((q.toInt64) * (661971961083 : Int64)) - (274743187321 : Int64)) >>> ((41 : Int32) &&& 0x3f).toInt64)), .second] [])) (fun t k => XS.lstore X2.here hx rfl (hb hby at_81) rfl (l' := #[.val (.int p0), .val (.int p1), .val (.int (1 : Int32)), .val (.int q), .val (.int (own_dec q (1 : Int32))), .val (.long ((q.toInt64) * (661971961083 : Int64))), .second, .val (.long ((((q.toInt64) * (661971961083 : Int64)) - (274743187321 : Int64)) >>> ((41 : Int32) &&& 0x3f).toInt64)), .second]) rfl k) ?_
    refine own_step (B := T2.setTop (mkF m 85 #[.val (.int p0), .val (.int p1), .val (.int (1 : Int32)), .val (.int q), .val (.int (own_dec q (1 : Int32))), .val (.long ((q.toInt64) * (661971961083 : Int64))), .second, .val (.long ((((q.toInt64) * (661971961083 : Int64)) - (274743187321 : Int64)) >>> ((41 : Int32) &&& 0x3f).toInt64)), .second] [(.int (own_dec q (1 : Int32)))])) (fun t k => XS.iload X2.here hx rfl (hb hby at_83) rfl k) ?_
    refine own_step (B := T2.setTop (mkF m 86 #[.val (.int p0), .val (.int p1), .val (.int (1 : Int32)), .val (.int q), .val (.int (own_dec q (1 : Int32))), .val (.long ((q.toInt64) * (661971961083 : Int64))), .second, .val (.long ((((q.toInt64) * (661971961083 : Int64)) - (274743187321 : Int64)) >>> ((41 : Int32) &&& 0x3f).toInt64)), .second] [(.long ((own_dec q (1 : Int32)).toInt64))])) (fun t k => XS.i2l X2.here hx rfl (hb hby at_85) rfl k) ?_
    refine own_step (B := T2.setTop (mkF m 88 #[.val (.int p0), .val (.int p1), .val (.int (1 : Int32)), .val (.int q), .val (.int (own_dec q (1 : Int32))), .val (.long ((q.toInt64) * (661971961083 : Int64))), .second, .val (.long ((((q.toInt64) * (661971961083 : Int64)) - (274743187321 : Int64)) >>> ((41 : Int32) &&& 0x3f).toInt64)), .second] [(.long ((((q.toInt64) * (661971961083 : Int64)) - (274743187321 : Int64)) >>> ((41 : Int32) &&& 0x3f).toInt64)), (.long ((own_dec q (1 : Int32)).toInt64))])) (fun t k => XS.lload X2.here hx rfl (hb hby at_86) rfl k) ?_
    refine own_step (B := T2.setTop (mkF m 89 #[.val (.int p0), .val (.int p1), .val (.int (1 : Int32)), .val (.int q), .val (.int (own_dec q (1 : Int32))), .val (.long ((q.toInt64) * (661971961083 : Int64))), .second, .val (.long ((((q.toInt64) * (661971961083 : Int64)) - (274743187321 : Int64)) >>> ((41 : Int32) &&& 0x3f).toInt64)), .second] [(.int (lcmpW ((own_dec q (1 : Int32)).toInt64) ((((q.toInt64) * (661971961083 : Int64)) - (274743187321 : Int64)) >>> ((41 : Int32) &&& 0x3f).toInt64)))])) (fun t k => XS.lcmp X2.here hx rfl (hb hby at_88) rfl k) ?_
    refine own_step (B := T2.setTop (mkF m 92 #[.val (.int p0), .val (.int p1), .val (.int (1 : Int32)), .val (.int q), .val (.int (own_dec q (1 : Int32))), .val (.long ((q.toInt64) * (661971961083 : Int64))), .second, .val (.long ((((q.toInt64) * (661971961083 : Int64)) - (274743187321 : Int64)) >>> ((41 : Int32) &&& 0x3f).toInt64)), .second] [])) (fun t k => XS.ifNo X2.here hx rfl (hb hby at_89) rfl ((if0 _ _).trans (teq (own_eq1 hq.1 hq.2)).2) k) ?_
    refine own_step (B := T2.setTop (mkF m 93 #[.val (.int p0), .val (.int p1), .val (.int (1 : Int32)), .val (.int q), .val (.int (own_dec q (1 : Int32))), .val (.long ((q.toInt64) * (661971961083 : Int64))), .second, .val (.long ((((q.toInt64) * (661971961083 : Int64)) - (274743187321 : Int64)) >>> ((41 : Int32) &&& 0x3f).toInt64)), .second] [(.int (1 : Int32))])) (fun t k => XS.iconst X2.here hx rfl (hb hby at_92) k) ?_
    refine own_step (B := T2.setTop (mkF m 97 #[.val (.int p0), .val (.int p1), .val (.int (1 : Int32)), .val (.int q), .val (.int (own_dec q (1 : Int32))), .val (.long ((q.toInt64) * (661971961083 : Int64))), .second, .val (.long ((((q.toInt64) * (661971961083 : Int64)) - (274743187321 : Int64)) >>> ((41 : Int32) &&& 0x3f).toInt64)), .second] [(.int (1 : Int32))])) (fun t k => XS.goto X2.here hx rfl (pc0 := 93) (pc' := 97) rfl (hb hby at_93) (by decide) (by decide) k) ?_
    exact own_retN X2 hx hlk (t := .boolean) Bd.returns (by simp) (hb hby at_97) (by decide) (by decide) (by exact ⟨rfl, N0⟩)
set_option maxRecDepth 65536 in
set_option maxHeartbeats 40000000 in
theorem comes_1 {Post : Tables → Env → Array Value → State → Outcome → State → Prop} (hpost : ∀ tb e args s v u, (limb_1_1.after args s (.returned v) u = true ∧ limb_1_2.after args s (.returned v) u = true ∧ True) → FrameEnd s (.returned v) u (Jvm.fieldLocs frame_1_writes args s ++ Jvm.arrayLocs frame_1_arrays args s ++ Jvm.staticLocs frame_1_statics s) 0 0 → Post tb e args s (.returned v) u) :
    ArmFor flags0 classFile x code maxLocals ret World_1 tables_1 room_1 Calls_1 rest_1 Pre_1 Post := by
  intro l hfl _ _ p e ha hc hk s m args below hf hA hF happ hP
  obtain ⟨hcalls, hrest, hpre⟩ := hP
  obtain ⟨-, -, -, hnamed, -, -, -, hat⟩ := (Spec.applies_iff hf).mp happ
  obtain ⟨hg, hn⟩ := and_e (Cond.before_iff.mp (show (Jvm.Cond.and given_1 narrow_1).before args s = true from hpre))
  obtain ⟨g0, k0⟩ := and_e hg
  obtain ⟨g1, k1⟩ := and_e k0
  obtain ⟨w0, w1, rfl⟩ : ∃ w0 w1 : Value, args = #[w0, w1] := by
    have hs : args.size = 2 := by simpa [Cond.value, given_1] using g0
    obtain ⟨L⟩ := args
    match L, hs with
    | [w0, w1], _ => exact ⟨w0, w1, rfl⟩
  have hw := fun d (hd : d ∈ tables_1) => atoms_spec (ws := Jvm.Cond.code x code maxLocals ret :: tables_1) hat d (List.mem_cons_of_mem _ hd)
  have hfit : Fit s := fun {y c} hc i hi => by
    obtain ⟨ha, rfl⟩ := Array.getElem?_eq_some_iff.mp hc
    have q := List.all_eq_true.mp ((Array.all_eq_true_iff_forall_mem.mp hF) _ (Array.getElem_mem ha)) i (List.mem_range.mpr hi)
    simpa [Array.getElem?_eq_getElem hi] using q
  obtain ⟨i0, ei0⟩ := is_v g1
  obtain rfl : w0 = (.int i0) := Option.some.inj ei0
  obtain ⟨i1, ei1⟩ := is_v k1
  obtain rfl : w1 = (.int i1) := Option.some.inj ei1
  obtain ⟨n, o, h1, h2, h3, _, L, rfl, ⟨rfl, N⟩, hq⟩ := rm0 l s _ hw tables_1 i0 i1 s.heap s.heap.size (Nat.le_refl _)  p e ha hc hk s m _ below hf ((Spec.applies_iff_loose hf).mp happ).1 ⟨rfl, State.Warmed39.refl s, rfl⟩ trivial
  refine ⟨n, _, h1, h2, h3, hpost _ _ _ _ _ _ ⟨Cond.after_iff.mpr rfl, Cond.after_iff.mpr (eq_i res_at (Term.int_eval (1)) rfl), trivial⟩ ⟨hq.1, hq.2.1, (hq.2.2.sift fun y hy => Or.inr (N y hy)).mono (by decide) (by decide)⟩⟩
theorem main_1_1 : Claimed_1_1 := comes_1 fun _ _ _ _ _ _ h hF => ⟨h.1, hF⟩
theorem main_1_2 : Claimed_1_2 := comes_1 fun _ _ _ _ _ _ h hF => ⟨h.2.1, hF⟩
end Jvm.Pilot.@@N@@
namespace Jvm.Pilot.@@N@@
open Jvm Jvm.ClassFile Sem Op Lib Jvm.Free Jvm.Stand Jvm.Pilot.@@N@@.Jvm.D
/-! MADE BY PROGRAM (witnessworld.py) out of the Statement's table words and the real class files: 9 classes; the members and pool entries that the words name. The judged class is class 1, her method 1. -/
namespace start1
open Jvm.ClassFile
def u (s : String) : CpInfo := .utf8 (stringToUtf16 s)
/-- a pool by its gaps: so many unusable entries, then the entry; so many at the end -/
def gap : Nat → List CpInfo → List CpInfo
  | 0, r => r
  | n + 1, r => .unusable :: gap n r
def poolList (es : List (Nat × CpInfo)) (last : Nat) : List CpInfo := es.foldr (fun e r => gap e.1 (e.2 :: r)) (gap last [])
def pool (es : List (Nat × CpInfo)) (last : Nat) : Array CpInfo := ⟨poolList es last⟩
def fileOf (pool : Array CpInfo) (this : Nat) (attrs : Array Attribute := #[]) (ms : Array MethodInfo := #[]) (fl : Nat := 33) (sup : Nat := 0) (ifs : Array Nat := #[]) (fds : Array FieldInfo := #[]) : ClassFile where
  minorVersion := 0
  majorVersion := 65
  constantPool := pool
  accessFlags := fl
  thisClass := this
  superClass := sup
  interfaces := ifs
  fields := fds
  methods := ms
  attributes := attrs
def plain (name : String) (sup : Option ClassId) : Class where
  name := name
  kind := .ordinary
  loader := none
  accessFlags := 33
  super := sup
  interfaces := #[]
  cf := none
  fields := #[]
  methods := #[]
  instanceTypes := #[]
  staticTypes := #[]
  resolved := #[]
  callSites := []
  init := .initialized
  statics := none
  mirror := none

def pool0 : Array CpInfo := pool [(5, u "<init>"), (0, u "()V"), (1, .class_ 10), (1, u "java/lang/Object")] 113

def k0m0 : Method := { name := "<init>", desc := "()V", sig := { parameters := [], returnType := none }, accessFlags := 1, code := none }
/-- java/lang/Object -/
def k0 : Class := { plain "java/lang/Object" none with
  accessFlags := 33
  interfaces := #[]
  cf := some (fileOf pool0 8 #[] #[{ accessFlags := 1, nameIndex := 5, descriptorIndex := 6, attributes := #[] }] 33 0 #[] #[])
  fields := #[]
  methods := #[k0m0]
  instanceTypes := #[]
  staticTypes := #[]
  resolved := Array.replicate 124 none
  statics := none }

def pool1 : Array CpInfo := pool [(2, .class_ 4), (1, u "java/lang/Object"), (0, u "<init>"), (0, u "()V"), (0, .integer 2147483647), (0, .methodref 9 10), (0, .class_ 11), (0, .nameAndType 12 13), (0, u "com/example/rimward/rimward/value/ShortestDecimal"), (0, u "decimalExponent"), (0, u "(IZ)I"), (0, .long 661971961083), (1, .long 274743187321), (1, .class_ 19), (0, u "com/example/rimward/rimward/value/ShortestDecimalDecimalExponentPinLaw"), (2, u "law"), (0, u "(II)Z")] 3

def k1m0 : Method := { name := "<init>", desc := "()V", sig := { parameters := [], returnType := none }, accessFlags := 2, code := none }
def k1c1 : Code := { maxStack := 4, maxLocals := 9, code := code, exceptionTable := #[], attributes := #[] }
def k1m1 : Method := { name := "law", desc := "(II)Z", sig := { parameters := [.int, .int], returnType := some .boolean }, accessFlags := 9, code := some k1c1 }
/-- com/example/rimward/rimward/value/ShortestDecimalDecimalExponentPinLaw -/
def k1 : Class := { plain "com/example/rimward/rimward/value/ShortestDecimalDecimalExponentPinLaw" (some 0) with
  accessFlags := 49
  interfaces := #[]
  cf := some (fileOf pool1 18 #[] #[{ accessFlags := 2, nameIndex := 5, descriptorIndex := 6, attributes := #[] }, { accessFlags := 9, nameIndex := 22, descriptorIndex := 23, attributes := #[] }] 49 2 #[] #[])
  fields := #[]
  methods := #[k1m0, k1m1]
  instanceTypes := #[]
  staticTypes := #[]
  resolved := Array.replicate 27 none
  statics := none }

def pool2 : Array CpInfo := pool [(1, .class_ 2), (0, u "com/example/rimward/rimward/value/ShortestDecimal"), (1, .class_ 6), (1, u "java/lang/Object"), (0, u "<init>"), (0, u "()V"), (27, u "decimalExponent"), (0, u "(IZ)I"), (36, .integer 315653), (0, .integer 131007), (2, u "POWER_SCALE"), (0, u "[I"), (2, u "POWER_HIGH"), (0, u "[J"), (2, u "POWER_LOW"), (76, u "FRACTION_BITS"), (0, u "I"), (2, u "FRACTION_MASK"), (0, u "J"), (0, u "MIN_BINARY_EXPONENT"), (1, u "EXPONENT_OFFSET"), (1, u "MIN_PLAIN_EXPONENT"), (1, u "MAX_PLAIN_EXPONENT"), (1, u "MIN_DECIMAL_EXPONENT"), (1, u "MAX_DECIMAL_EXPONENT")] 9

def k2m0 : Method := { name := "<init>", desc := "()V", sig := { parameters := [], returnType := none }, accessFlags := 2, code := none }
def k2c1 : Code := { maxStack := 2, maxLocals := 2, code := prog_142_method_4_code, exceptionTable := #[], attributes := #[] }
def k2m1 : Method := { name := "decimalExponent", desc := "(IZ)I", sig := { parameters := [.int, .boolean], returnType := some .int }, accessFlags := 8, code := some k2c1 }
/-- com/example/rimward/rimward/value/ShortestDecimal -/
def k2 : Class := { plain "com/example/rimward/rimward/value/ShortestDecimal" (some 0) with
  accessFlags := 48
  interfaces := #[]
  cf := some (fileOf pool2 1 #[] #[{ accessFlags := 2, nameIndex := 7, descriptorIndex := 8, attributes := #[] }, { accessFlags := 8, nameIndex := 36, descriptorIndex := 37, attributes := #[] }] 48 4 #[] #[{ accessFlags := 26, nameIndex := 163, descriptorIndex := 164, attributes := #[] }, { accessFlags := 26, nameIndex := 167, descriptorIndex := 168, attributes := #[] }, { accessFlags := 26, nameIndex := 169, descriptorIndex := 164, attributes := #[] }, { accessFlags := 26, nameIndex := 171, descriptorIndex := 164, attributes := #[] }, { accessFlags := 26, nameIndex := 173, descriptorIndex := 164, attributes := #[] }, { accessFlags := 26, nameIndex := 175, descriptorIndex := 164, attributes := #[] }, { accessFlags := 24, nameIndex := 177, descriptorIndex := 164, attributes := #[] }, { accessFlags := 24, nameIndex := 179, descriptorIndex := 164, attributes := #[] }, { accessFlags := 26, nameIndex := 78, descriptorIndex := 79, attributes := #[] }, { accessFlags := 26, nameIndex := 82, descriptorIndex := 83, attributes := #[] }, { accessFlags := 26, nameIndex := 86, descriptorIndex := 83, attributes := #[] }])
  fields := #[{ name := "FRACTION_BITS", type := .int, accessFlags := 26, slot := 0, constantValue := 0 }, { name := "FRACTION_MASK", type := .long, accessFlags := 26, slot := 1, constantValue := 0 }, { name := "MIN_BINARY_EXPONENT", type := .int, accessFlags := 26, slot := 2, constantValue := 0 }, { name := "EXPONENT_OFFSET", type := .int, accessFlags := 26, slot := 3, constantValue := 0 }, { name := "MIN_PLAIN_EXPONENT", type := .int, accessFlags := 26, slot := 4, constantValue := 0 }, { name := "MAX_PLAIN_EXPONENT", type := .int, accessFlags := 26, slot := 5, constantValue := 0 }, { name := "MIN_DECIMAL_EXPONENT", type := .int, accessFlags := 24, slot := 6, constantValue := 0 }, { name := "MAX_DECIMAL_EXPONENT", type := .int, accessFlags := 24, slot := 7, constantValue := 0 }, { name := "POWER_SCALE", type := (.array .int), accessFlags := 26, slot := 8, constantValue := 0 }, { name := "POWER_HIGH", type := (.array .long), accessFlags := 26, slot := 9, constantValue := 0 }, { name := "POWER_LOW", type := (.array .long), accessFlags := 26, slot := 10, constantValue := 0 }]
  methods := #[k2m0, k2m1]
  instanceTypes := #[]
  staticTypes := #[.int, .long, .int, .int, .int, .int, .int, .int, (.array .int), (.array .long), (.array .long)]
  resolved := Array.replicate 189 none
  statics := none }

def pool3 : Array CpInfo := pool [(1, u "java/lang/Cloneable"), (0, .class_ 1), (0, u "java/lang/Object"), (0, .class_ 3)] 3

/-- java/lang/Cloneable -/
def k3 : Class := { plain "java/lang/Cloneable" (some 0) with
  accessFlags := 1537
  interfaces := #[]
  cf := some (fileOf pool3 2 #[] #[] 1537 4 #[] #[])
  fields := #[]
  methods := #[]
  instanceTypes := #[]
  staticTypes := #[]
  resolved := Array.replicate 8 none
  statics := none }

def pool4 : Array CpInfo := pool [(1, u "java/io/Serializable"), (0, .class_ 1), (0, u "java/lang/Object"), (0, .class_ 3)] 3

/-- java/io/Serializable -/
def k4 : Class := { plain "java/io/Serializable" (some 0) with
  accessFlags := 1537
  interfaces := #[]
  cf := some (fileOf pool4 2 #[] #[] 1537 4 #[] #[])
  fields := #[]
  methods := #[]
  instanceTypes := #[]
  staticTypes := #[]
  resolved := Array.replicate 8 none
  statics := none }

/-- the primitive byte -/
def k5 : Class := { plain "byte" none with kind := .primitive 'B', accessFlags := 0x411 }
/-- [B -/
def k6 : Class := { plain "[B" (some 0) with kind := .array 5 .byte, interfaces := #[3, 4], accessFlags := 1041 }

/-- the primitive int -/
def k7 : Class := { plain "int" none with kind := .primitive 'I', accessFlags := 0x411 }
/-- [I -/
def k8 : Class := { plain "[I" (some 0) with kind := .array 7 .int, interfaces := #[3, 4], accessFlags := 1041 }

def heap : Heap := #[]
def classes : Array Class := #[k0, k1, k2, k3, k4, k5, k6, k7, k8]
def interned : List (Array UInt16 × Addr) := []
def slotsUsed : Nat := 0
def theMethod : MethodId := ⟨1, 1⟩
def args0 : Array Value := #[.int 5, .int 3]
def aboutOver (below : List Frame) : State where
  vm := { classes := classes, interned := interned.toArray }
  heap := heap
  slotsUsed := slotsUsed
  threads := #[{ frames := .invoking theMethod args0 :: below }]
def below0 : List Frame := [.native { method := ⟨0, 0⟩, args := #[] }]
def about1 : State := aboutOver below0
def p0 : Program := .bare "" "" ""
def e0 : Env := launch0.env 0 0 0
theorem w_frames : about1.frames = Frame.invoking theMethod args0 :: below0 := rfl
set_option maxRecDepth 65536 in
theorem w_args : argsFit about1.vm theMethod args0 = true := by decide +kernel
set_option maxRecDepth 65536 in
theorem w_heap : heapFits about1 = true := by decide +kernel
set_option maxRecDepth 65536 in
theorem w_runnable : about1.curStatus? = some .runnable := by decide +kernel
set_option maxRecDepth 65536 in
theorem w_alone : about1.alone = true := by decide +kernel
set_option maxRecDepth 65536 in
theorem w_named : about1.methodNamed? x = some theMethod := by decide +kernel
set_option maxRecDepth 65536 in
theorem w_hears : about1.hears theMethod below0 = true := by decide +kernel
set_option maxRecDepth 65536 in
theorem w_ripe : about1.ripe theMethod args0 below0 = true := by decide +kernel
theorem w_running : about1.status = .running := rfl
set_option maxRecDepth 65536 in
theorem w_room : about1.hasRoom e0.platform room_1 = true :=
  launch0.hasRoom_least _ room_1 (by decide +kernel) (by decide +kernel) (by decide +kernel) (by decide +kernel) (by decide +kernel) (by decide +kernel)
theorem allAtoms_all (ts : List Jvm.Cond) (a : Array Jvm.Value) (st : Jvm.State) : (allAtoms ts).before a st = ts.all (fun c => c.before a st) := by
  induction ts with
  | nil => rfl
  | cons c t ih =>
    show (Jvm.Cond.and c (allAtoms t)).before a st = _
    rw [Jvm.Cond.before_and, ih, List.all_cons]
def words1 : List Jvm.Cond := Jvm.Cond.code x code maxLocals ret :: tables_1
/-- a 'code' word, met by the world's own term for the bytes: nothing is compared byte by byte -/
theorem code_word {y : MethodName} {bytes : ByteArray} {mx : Nat} {rt : Option FieldType} {a : Array Value} {s : State} {m : MethodId} {meth : Method} {c : Code} (h1 : s.methodNamed? y = some m) (h2 : s.vm.method? m = some meth) (h3 : meth.code = some c) (h4 : c.code = bytes)
    (h5 : (c.maxLocals == mx && c.exceptionTable.isEmpty && decide (c.maxStack ≤ mostOperands) && decide (meth.sig.returnType = rt) && !meth.locks && decide (parseMethodDescriptor y.desc = some meth.sig)) = true) : (Jvm.Cond.code y bytes mx rt).before a s = true := by
  simp only [Bool.and_eq_true, beq_iff_eq, Bool.not_eq_true', decide_eq_true_eq] at h5
  obtain ⟨⟨⟨⟨⟨g1, g2⟩, g3⟩, g4⟩, g5⟩, g6⟩ := h5
  simp [Cond.before, Cond.holds, Cond.value, h1, h2, h3, h4, g1, g2, g3, g4, g5, g6]
def isCode : Jvm.Cond → Bool
  | .code _ _ _ _ => true
  | _ => false
theorem all_split {L : List Jvm.Cond} {P : Jvm.Cond → Bool} (h1 : L.all (fun c => isCode c || P c) = true) (h2 : ∀ c ∈ L.filter isCode, P c = true) : L.all P = true := by
  refine List.all_eq_true.mpr fun c hc => ?_
  have h := List.all_eq_true.mp h1 c hc
  rcases Bool.eq_false_or_eq_true (isCode c) with hi | hi
  · exact h2 c (List.mem_filter.mpr ⟨hc, hi⟩)
  · simpa [hi] using h
set_option maxRecDepth 65536 in
theorem w_c0 : (Jvm.Cond.code x code maxLocals ret).before args0 about1 = true := code_word (m := ⟨1, 1⟩) (meth := k1m1) (c := k1c1) (by decide +kernel) rfl rfl rfl (by decide +kernel)
set_option maxRecDepth 65536 in
theorem w_c1 : (Jvm.Cond.code ({ cls := "com/example/rimward/rimward/value/ShortestDecimal", name := "decimalExponent", desc := "(IZ)I" } : Jvm.MethodName) prog_142_method_4_code (2 : Nat) (Option.some Jvm.ClassFile.FieldType.int)).before args0 about1 = true := code_word (m := ⟨2, 1⟩) (meth := k2m1) (c := k2c1) (by decide +kernel) rfl rfl rfl (by decide +kernel)
def codes1 : List Jvm.Cond := [Jvm.Cond.code x code maxLocals ret, Jvm.Cond.code ({ cls := "com/example/rimward/rimward/value/ShortestDecimal", name := "decimalExponent", desc := "(IZ)I" } : Jvm.MethodName) prog_142_method_4_code (2 : Nat) (Option.some Jvm.ClassFile.FieldType.int)]
set_option maxRecDepth 65536 in
theorem codes_eq : words1.filter isCode = codes1 := rfl
theorem w_codes : ∀ c ∈ words1.filter isCode, c.before args0 about1 = true := by
  rw [codes_eq]
  intro c hc
  simp only [codes1, List.mem_cons, List.not_mem_nil, or_false] at hc
  rcases hc with rfl | rfl
  · exact w_c0
  · exact w_c1
set_option maxRecDepth 65536 in
theorem w_t1 : words1.all (fun c => isCode c || c.before args0 about1) = true := by decide +kernel
theorem w_tables : (allAtoms (Jvm.Cond.code x code maxLocals ret :: tables_1)).before args0 about1 = true := by
  rw [allAtoms_all]
  show words1.all (fun c => c.before args0 about1) = true
  refine all_split ?_ w_codes
  rw [w_t1]
set_option maxRecDepth 65536 in
theorem w_case : (Jvm.Cond.and given_1 narrow_1).before args0 about1 = true := by decide +kernel
theorem w_applies : (headSpec (Jvm.Cond.code x code maxLocals ret :: tables_1) room_1).applies x e0.platform about1 = true :=
  (Spec.applies_iff w_frames).mpr ⟨w_running, w_runnable, w_alone, w_named, w_hears, w_ripe, w_room, w_tables⟩
theorem atStart : AtStart classFile x code maxLocals ret World_1 tables_1 room_1 Calls_1 rest_1 Pre_1 launch0 p0 e0 about1 theMethod args0 below0 :=
  ⟨lists_1, trivial, launch0.admits_env _ _ _, launch0.least_env, fairChoices_fair.cas, fairChoices_fair.clock, w_frames, w_args, w_heap, w_applies, trivial, trivial, w_case⟩
end start1
theorem witness_1 : WitnessClaimed_1 := ⟨start1.p0, start1.e0, start1.about1, start1.theMethod, start1.args0, start1.below0, start1.atStart⟩
end Jvm.Pilot.@@N@@
