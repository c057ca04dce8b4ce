import JvmDerived
import JvmDerived.Pilot.@@N@@Statement
import JvmDerived.Pilot.@@N@@Code
set_option linter.unusedVariables false
set_option linter.unusedSimpArgs false
namespace Jvm.Pilot.@@N@@
open Jvm Jvm.ClassFile Sem Op Lib Jvm.Free Jvm.Stand Jvm.LawKit Jvm.RoadKit Bundle Jvm.Pilot.@@N@@.Jvm.D
/-! 0. the frame of a walk: from state A the body comes to an end of which Q holds -/
def own_G (tb : Tables) (e : Env) (below : List Frame) (s : State) (Q : Option Value → Heap → List Loc → Prop) (k n : Nat) (A : State) : Prop :=
  ∃ t o, Steps tb e below A t ∧ t.status = .running ∧ Ended t below o ∧ ∃ v L, o = .returned v ∧ Q v t.heap L ∧ FrameEnd s o t L k n
theorem own_step {tb : Tables} {e : Env} {below : List Frame} {s : State} {Q : Option Value → Heap → List Loc → Prop} {k n : Nat} {A B : State}
    (h : ∀ t, Steps tb e below B t → Steps tb e below A t) (g : own_G tb e below s Q k n B) : own_G tb e below s Q k n A := by
  obtain ⟨t, o, h1, h2⟩ := g
  exact ⟨t, o, h t h1, h2⟩
section Rets
variable {p : Program} {l : Launch} {e : Env} {R : Room} {s : State} {m : MethodId} {args : Array Value} {below : List Frame} {meth : Method} {c : Code} {T : State} {locs : List Loc} {cells slots : Nat} {Q : Option Value → Heap → List Loc → Prop} {k n : Nat}
theorem own_out (X : Stand p l e R s m args below meth c T locs cells slots) {v : Option Value} (hv : meth.sig.returnType = none → v = none) (hlk : meth.locks = false) {F : JFrame}
    (hs : ∀ fs, (∀ (f : JFrame) (acts : List Action), f.method = m → f.locked = none → f.entered = [] → (doReturn e (T.setTop f) acts v).1 = T.setFrames fs) → Steps p.tables e below (T.setTop F) (T.setFrames fs))
    (hk : cells ≤ k) (hn : slots ≤ n) (hQ : Q v T.heap locs) : own_G p.tables e below s Q k n (T.setTop F) := by
  obtain ⟨fs, hr, hrun, hended, hW, hsame⟩ := X.leave hv hlk
  exact ⟨_, _, hs fs hr, hrun, hended, _, _, rfl, hQ, ⟨_, rfl⟩, hW, hsame.mono hk hn⟩
theorem own_retV (X : Stand p l e R s m args below meth c T locs cells slots) (hx : p.tables.exec = Jvm.exec) (hlk : meth.locks = false) {pc : Nat} {Ls : Array Slot} (hret : meth.sig.returnType = none) (hd : decode c.code pc = .ok (.return_, 1))
    (hk : cells ≤ k) (hn : slots ≤ n) (hQ : Q none T.heap locs) : own_G p.tables e below s Q k n (T.setTop (mkF m pc Ls [])) :=
  own_out X (fun _ => rfl) hlk (fun fs hr => X.returnOut hx hret hd hr) hk hn hQ
theorem own_retN (X : Stand p l e R s m args below meth c T locs cells slots) (hx : p.tables.exec = Jvm.exec) (hlk : meth.locks = false) {pc : Nat} {Ls : Array Slot} {z : Int32} {t : FieldType} {rest : List Value} (hret : meth.sig.returnType = some t) (ht : t = .boolean ∨ t = .byte ∨ t = .char ∨ t = .short) (hd : decode c.code pc = .ok (.ireturn, 1))
    (hk : cells ≤ k) (hn : slots ≤ n) (hQ : Q (some (.int (nar t z))) T.heap locs) : own_G p.tables e below s Q k n (T.setTop (mkF m pc Ls (.int z :: rest))) :=
  own_out X (fun h => by rw [hret] at h; cases h) hlk (fun fs hr => retN X hx hret ht hd hr) hk hn hQ
theorem own_retI (X : Stand p l e R s m args below meth c T locs cells slots) (hx : p.tables.exec = Jvm.exec) (hlk : meth.locks = false) {pc : Nat} {Ls : Array Slot} {z : Int32} {rest : List Value} (hret : meth.sig.returnType = some .int) (hd : decode c.code pc = .ok (.ireturn, 1))
    (hk : cells ≤ k) (hn : slots ≤ n) (hQ : Q (some (.int z)) T.heap locs) : own_G p.tables e below s Q k n (T.setTop (mkF m pc Ls (.int z :: rest))) :=
  own_out X (fun h => by rw [hret] at h; cases h) hlk (fun fs hr => retOut X hx hret rfl (Or.inl ⟨rfl, Or.inl rfl, _, rfl⟩) hd hr) hk hn hQ
theorem own_retJ (X : Stand p l e R s m args below meth c T locs cells slots) (hx : p.tables.exec = Jvm.exec) (hlk : meth.locks = false) {pc : Nat} {Ls : Array Slot} {z : Int64} {rest : List Value} (hret : meth.sig.returnType = some .long) (hd : decode c.code pc = .ok (.lreturn, 1))
    (hk : cells ≤ k) (hn : slots ≤ n) (hQ : Q (some (.long z)) T.heap locs) : own_G p.tables e below s Q k n (T.setTop (mkF m pc Ls (.long z :: rest))) :=
  own_out X (fun h => by rw [hret] at h; cases h) hlk (fun fs hr => retOut X hx hret rfl (Or.inr (Or.inl ⟨rfl, rfl, _, rfl⟩)) hd hr) hk hn hQ
theorem own_retA (X : Stand p l e R s m args below meth c T locs cells slots) (hx : p.tables.exec = Jvm.exec) (hlk : meth.locks = false) {pc : Nat} {Ls : Array Slot} {a : Addr} {t : FieldType} {rest : List Value} (hret : meth.sig.returnType = some t) (hd : decode c.code pc = .ok (.areturn, 1)) (ht : t.isReference = true)
    (hk : cells ≤ k) (hn : slots ≤ n) (hQ : Q (some (.ref a)) T.heap locs) : own_G p.tables e below s Q k n (T.setTop (mkF m pc Ls (.ref a :: rest))) :=
  own_out X (fun h => by rw [hret] at h; cases h) hlk (fun fs hr => retOut X hx hret (by cases t <;> first | rfl | cases ht) (Or.inr (Or.inr (Or.inr (Or.inr ⟨rfl, ht, rfl⟩)))) hd hr) hk hn hQ
end Rets

theorem pd_0 : parseMethodDescriptor "()V" = some ⟨[], none⟩ := by decide +kernel
theorem pd_1 : parseMethodDescriptor "(I)I" = some ⟨[.int], some .int⟩ := by decide +kernel
theorem pd_2 : parseMethodDescriptor "(F)Z" = some ⟨[.float], some .boolean⟩ := by decide +kernel
theorem pd_3 : parseMethodDescriptor "(IF)V" = some ⟨[.int, .float], none⟩ := by decide +kernel
theorem pd_4 : parseMethodDescriptor "(IFZ)V" = some ⟨[.int, .float, .boolean], none⟩ := by decide +kernel
theorem pd_5 : parseMethodDescriptor "(J)V" = some ⟨[.long], none⟩ := by decide +kernel
theorem pd_6 : parseMethodDescriptor "(Lcom/example/loomwire/loomwire/transport/MemoryBudget$Pool;)V" = some ⟨[(.object "com/example/loomwire/loomwire/transport/MemoryBudget$Pool")], none⟩ := by decide +kernel
theorem pd_7 : parseMethodDescriptor "(JJI)V" = some ⟨[.long, .long, .int], none⟩ := by decide +kernel
theorem pd_8 : parseMethodDescriptor "()J" = some ⟨[], some .long⟩ := by decide +kernel
theorem pd_9 : parseMethodDescriptor "()Lcom/example/loomwire/loomwire/transport/MemoryBudget$Account;" = some ⟨[], some (.object "com/example/loomwire/loomwire/transport/MemoryBudget$Account")⟩ := by decide +kernel
/-! 0b. entries that the sheet takes as resolved; floats -/
section Refs
variable {p : Program} {l : Launch} {e : Env} {R : Room} {s : State} {m : MethodId} {args : Array Value} {below : List Frame} {meth : Method} {c : Code} {T : State} {locs : List Loc} {cells slots : Nat} {Z : State} {a0 : Array Value} {h : Heap}
theorem own_getR (X : Stand p l e R s m args below meth c T locs cells slots) (hx : p.tables.exec = Jvm.exec) (hZ : Z.Warmed39 s.vm) {own R0 n d : String} {index : Nat} (hown : s.vm.findClass own = some m.cls) (w : (Cond.fieldRef own index R0 n d).before a0 Z = true)
    (eT : T.heap = h) {a : Addr} {v : Value} (F : Fld Z h a R0 n d v) {g : JFrame} (hg : g.method = m) {rest : List Value} (hs : g.stack = .ref a :: rest) (hd : decode c.code g.pc = .ok (.getfield index, 3)) :
    ∀ target, Steps p.tables e below (T.setTop { g with pc := g.pc + 3, stack := v :: rest }) target → Steps p.tables e below (T.setTop g) target := by
  have hU : Z.Warmed39 T.vm := wtrans hZ X.warmed
  have w' := Cond.fieldRef_warmed39 hU w
  have hown' : (Z.setVm T.vm).vm.findClass own = some m.cls := by
    show T.vm.findClass own = _
    rw [X.warmed.alike.findClass]; exact hown
  obtain ⟨c', k', i', f', hi', hready⟩ := Cond.fieldRef_spec (s := Z.setVm T.vm) hown' w'
  obtain ⟨cell, cf, k, i, f, h1, h2, h3, h4, -, -, h7⟩ := F
  obtain ⟨k'', hi2, -⟩ := State.fieldFound?_setVm (s := Z) hU.alike h2
  cases hi2.symm.trans hi'
  intro target hrest
  subst hg
  jvm_step X.here [hx, hd, getfield.wp_ready (e := e) (s := T) (f := g) X.here.top hready h3 hs (by rw [eT]; exact h1) h4 h7]
  exact hrest
theorem own_specR (X : Stand p l e R s m args below meth c T locs cells slots) (hx : p.tables.exec = Jvm.exec) (hZ : Z.Warmed39 s.vm) {own : String} {index : Nat} {y : MethodName} (hy1 : y.name = "<init>") (hown : s.vm.findClass own = some m.cls)
    (w1 : (Cond.methodRef own index y).before a0 Z = true) (w2 : (Cond.instanceMethod y).before a0 Z = true) {bytes : ByteArray} {maxL : Nat} (w3 : (Cond.code y bytes maxL none).before a0 Z = true) (hy : y.cls ≠ "java/lang/invoke/MethodHandle" ∧ y.cls ≠ "java/lang/invoke/VarHandle")
    {W : Nat} {Pre : Pt → Array Value → Prop} {Post : Pt → Array Value → Option Value → Pt → Prop} (hK : Back l R p e below s args y 3 W Pre Post)
    {g : JFrame} (hg : g.method = m) (hsize : g.locals.size = c.maxLocals) {a : Addr} {argsL rest : List Value}
    (hlen : ∀ sig, parseMethodDescriptor y.desc = some sig → argsL.length = sig.parameters.length) (hstack : g.stack = argsL.reverse ++ .ref a :: rest) (hW : 2 * g.monitorRoom + (rest.map fun v => v.category).sum ≤ W)
    (hdg : decode c.code g.pc = .ok (.invokespecial index, 3)) (hpre : ∀ vm₁, s.WarmedH vm₁ → Pre ⟨T.setVm vm₁, locs, cells, slots⟩ (.ref a :: argsL).toArray) :
    ∃ (v : Option Value) (vm₁ : Vm) (B : Pt), s.WarmedH vm₁ ∧ Stand p l e R s m args below meth c B.U B.locs B.cells B.slots ∧ Post ⟨T.setVm vm₁, locs, cells, slots⟩ (.ref a :: argsL).toArray v B ∧
      ∀ target, Steps p.tables e below (B.U.setTop { g with pc := g.pc + 3, stack := v.toList ++ rest }) target → Steps p.tables e below (T.setTop g) target := by
  have hU : Z.Warmed39 T.vm := wtrans hZ X.warmed
  obtain ⟨ob0, _, hn0, -⟩ := Cond.instanceMethod_spec w2
  have w' := Cond.methodRef_warmed39 hU hn0 hy w1
  have hown' : (Z.setVm T.vm).vm.findClass own = some m.cls := by
    show T.vm.findClass own = _
    rw [X.warmed.alike.findClass]; exact hown
  obtain ⟨obj, methO, hnO, hmO, hstO, habO⟩ := Cond.instanceMethod_spec (mvT (args := args) hZ w2)
  obtain ⟨methO', cO, hmO', hcO, hbO, hlO, -, hlockO, -, hsigO⟩ := Cond.code_spec hnO (mvT (args := args) hZ w3)
  cases hmO.symm.trans hmO'
  obtain ⟨kO, hkO, hnameO⟩ := className_of_methodNamed hnO
  obtain ⟨hnameMO, hdescO⟩ := name_of_methodNamed hnO hmO
  have hnT : T.methodNamed? y = some obj := X.named hnO
  obtain ⟨m', c', hfound', hready, hfind, hres⟩ := Cond.methodRef_named (s := Z.setVm T.vm) e hown' w'
  have hm1 : T.methodFound? y.cls y.name y.desc = some obj := State.methodFound?_of_named hnT hy
  have hm2 : T.methodFound? y.cls y.name y.desc = some m' := hfound'
  cases hm1.symm.trans hm2
  have hc1 : T.vm.findClass y.cls = some obj.cls := findClass_of_methodNamed hnT
  have hc2 : T.vm.findClass y.cls = some c' := hfind
  cases hc1.symm.trans hc2
  have hmT : T.vm.method? obj = some methO := by rw [X.warmed.alike.method?]; exact hmO
  obtain ⟨kT, hkT, -⟩ := X.warmed.alike.2.2 _ _ hkO
  have hlook : lookupSpecial T.vm obj.cls "<init>" methO.desc = .method obj := by
    rw [hdescO, ← hy1]; exact lookupSpecial_of_named hnT hmT hstO
  have X₁ := X.noted X.warmed
  obtain ⟨v, B, X', hpost, hsteps⟩ := hK m meth c ⟨T.setVm T.vm, locs, cells, slots⟩ { g with stack := rest } (.invokespecial index) obj (.ref a :: argsL).toArray X₁ hg hsize hdg hW (X₁.named hnO) (hpre T.vm X.warmed)
  refine ⟨v, T.vm, B, X.warmed, X', hpost, fun target hrest => ?_⟩
  have hgo : Steps p.tables e below (T.setTop g) (B.U.setTop { g with pc := g.pc + 3, stack := v.toList ++ rest }) := by
    refine Steps.trans ?_ hsteps
    subst hg
    jvm_step X.here [hx, hdg, invokespecial.wp_init (e := e) (s := T) (k := kT) (meth := methO) (m := obj) (a := a) (args := argsL) (rest := rest) (f := g) X.here.top hres hready hkT hmT (by rw [hnameMO]; exact hy1) hstO habO hlook (hlen _ hsigO) hstack]
    exact fun acts => by rw [doInvoke_state]; exact Steps.refl _
  exact hgo.trans hrest
theorem own_fload (X : Stand p l e R s m args below meth c T locs cells slots) (hx : p.tables.exec = Jvm.exec) {g : JFrame} (hg : g.method = m) {k : Fin 4} {v : UInt32} (hd : decode c.code g.pc = .ok (.fload_n k, 1)) (hl : g.locals[k.val]? = some (.val (.float v))) :
    ∀ target, Steps p.tables e below (T.setTop { g with pc := g.pc + 1, stack := .float v :: g.stack }) target → Steps p.tables e below (T.setTop g) target := by
  intro target hr
  subst hg
  jvm_step X.here [X.here.top, hx, hd, hl]
  exact hr
theorem own_fconst0 (X : Stand p l e R s m args below meth c T locs cells slots) (hx : p.tables.exec = Jvm.exec) {g : JFrame} (hg : g.method = m) (hd : decode c.code g.pc = .ok (.fconst 0, 1)) :
    ∀ target, Steps p.tables e below (T.setTop { g with pc := g.pc + 1, stack := .float 0 :: g.stack }) target → Steps p.tables e below (T.setTop g) target := by
  intro target hr
  subst hg
  jvm_step X.here [X.here.top, hx, hd]
  exact hr
theorem own_fcmp (X : Stand p l e R s m args below meth c T locs cells slots) (hx : p.tables.exec = Jvm.exec) {g : JFrame} (hg : g.method = m) {op : CmpOp} {a b : UInt32} {rest : List Value} {z : Int32} (hd : decode c.code g.pc = .ok (.fcmp op, 1)) (hs : g.stack = .float b :: .float a :: rest) (hz : (match FP.fcmp a b with | some .gt => (1 : Int32) | some .eq => 0 | some .lt => -1 | none => if op = .g then 1 else -1) = z) (hn : (FP.fcmp a b).isSome = true) :
    ∀ target, Steps p.tables e below (T.setTop { g with pc := g.pc + 1, stack := .int z :: rest }) target → Steps p.tables e below (T.setTop g) target := by
  intro target hr
  subst hg
  obtain ⟨o, ho⟩ := Option.isSome_iff_exists.mp hn
  rw [ho] at hz
  subst hz
  cases o <;> (jvm_step X.here [X.here.top, hx, hd, hs, ho]; exact hr)
end Refs

theorem d6_0 : decode jdk_22_method_1_code 0 = .ok (.aload_n 0, 1) := by decide +kernel
theorem d6_1 : decode jdk_22_method_1_code 1 = .ok (.invokespecial 1, 3) := by decide +kernel
theorem d6_4 : decode jdk_22_method_1_code 4 = .ok (.return_, 1) := by decide +kernel
theorem pn_java_util_AbstractCollection : plainName "java/util/AbstractCollection" = true := by first | (simp [plainName, overriddenIn]; done) | decide +kernel
theorem ef_rm6 (m : MethodId) (x0 : Addr) : entryFrame m #[(.ref x0)] 1 = mkF m 0 #[.val (.ref x0)] [] := by first | (simp [entryFrame, mkF, argsToLocals, Value.category]; done) | rfl
def QQ_rm6 (Z : State) (b0 : Addr)  (h0 : Heap) (n0 : Nat) (v : Option Value) (h : Heap) (L : List Loc) : Prop := v = none ∧ Fr n0 L ∧ h = h0
set_option maxRecDepth 65536 in
set_option maxHeartbeats 40000000 in
theorem rm6 (l : Launch) (Z : State) (a0 : Array Value) (hw : ∀ d ∈ tables_1, d.before a0 Z = true) (ws : List Jvm.Cond) (b0 : Addr)  (h0 : Heap) (n0 : Nat) (Z0 : n0 ≤ h0.size)  :
    MetFree l (⟨"java/util/AbstractCollection", "<init>", "()V"⟩ : MethodName) (head1 (Jvm.Cond.code (⟨"java/util/AbstractCollection", "<init>", "()V"⟩ : MethodName) jdk_22_method_1_code 1 none :: ws) ({ frames := 1, cells := 0, slots := 0, locals := 12 } : Room)) (fun a U => a = #[(.ref b0)] ∧ Z.Warmed39 U.vm ∧ U.heap = h0) (fun _ _ _ _ _ => True) (fun _ U o U' => ∃ v L, o = .returned v ∧ (QQ_rm6 Z b0 h0 n0) v U'.heap L ∧ FrameEnd U o U' L ({ frames := 1, cells := 0, slots := 0, locals := 12 } : Room).cells ({ frames := 1, cells := 0, slots := 0, locals := 12 } : Room).slots) := by
  refine MetFree.of_bodySF (plainFor_of_name pn_java_util_AbstractCollection) hisR ?_
  intro p e s m args below meth c s₁ Bd hml0 hP hK
  obtain ⟨rfl, hZ, hh⟩ := hP
  have hx := Bd.exec
  have hby := Bd.bytes
  have hlk : meth.locks = false := BodyLoose.notSynchronized Bd
  have hml : c.maxLocals = 1 := hml0
  have hown : s.vm.findClass "java/util/AbstractCollection" = some m.cls := findClass_of_methodNamed Bd.named
  have hnm := (name_of_methodNamed Bd.named Bd.method).1
  have X0 : Stand p l e ({ frames := 1, cells := 0, slots := 0, locals := 12 } : Room) s m #[(.ref b0)] below meth c s₁ [] 0 0 := Stand.of_body Bd
  have e0 : s₁.heap = h0 := by rw [← hh, Bd.state]; rfl
  have N0 := Fr.nil n0
  show own_G p.tables e below s (QQ_rm6 Z b0 h0 n0) ({ frames := 1, cells := 0, slots := 0, locals := 12 } : Room).cells ({ frames := 1, cells := 0, slots := 0, locals := 12 } : Room).slots (s₁.setTop (entryFrame m #[(.ref b0)] 1))
  refine own_step (B := s₁.setTop (mkF m 0 #[.val (.ref b0)] [])) (fun t k => castTop (ef_rm6 m b0) k) ?_
  refine own_step (B := s₁.setTop (mkF m 1 #[.val (.ref b0)] [(.ref b0)])) (fun t k => XS.aloadN X0.here hx rfl (hb hby d6_0) rfl rfl k) ?_
  obtain ⟨T1, X1, e1, st1⟩ := initO X0 hx hZ hown (hw _ (List.mem_of_getElem? (i := 34) rfl)) (hw _ (List.mem_of_getElem? (i := 7) rfl)) (hw _ (List.mem_of_getElem? (i := 8) rfl)) e0 (g := (mkF m 1 #[.val (.ref b0)] [(.ref b0)])) rfl (by rw [hml]; rfl) rfl (hb hby d6_1) (by decide) (W := 0) (by show 2 * 0 + _ ≤ _; exact Nat.le_of_eq rfl) (by decide)
  refine own_step (B := T1.setTop (mkF m 4 #[.val (.ref b0)] [])) (fun t k => st1 t k) ?_
  exact own_retV X1 hx hlk Bd.returns (hb hby d6_4) (by decide) (by decide) (by exact ⟨rfl, N0, e1⟩)
theorem d5_0 : decode jdk_91_method_1_code 0 = .ok (.aload_n 0, 1) := by decide +kernel
theorem d5_1 : decode jdk_91_method_1_code 1 = .ok (.invokespecial 1, 3) := by decide +kernel
theorem d5_4 : decode jdk_91_method_1_code 4 = .ok (.return_, 1) := by decide +kernel
theorem pn_java_util_AbstractSet : plainName "java/util/AbstractSet" = true := by first | (simp [plainName, overriddenIn]; done) | decide +kernel
theorem ef_rm5 (m : MethodId) (x0 : Addr) : entryFrame m #[(.ref x0)] 1 = mkF m 0 #[.val (.ref x0)] [] := by first | (simp [entryFrame, mkF, argsToLocals, Value.category]; done) | rfl
def QQ_rm5 (Z : State) (b0 : Addr)  (h0 : Heap) (n0 : Nat) (v : Option Value) (h : Heap) (L : List Loc) : Prop := v = none ∧ Fr n0 L ∧ h = h0
set_option maxRecDepth 65536 in
set_option maxHeartbeats 40000000 in
theorem rm5 (l : Launch) (Z : State) (a0 : Array Value) (hw : ∀ d ∈ tables_1, d.before a0 Z = true) (ws : List Jvm.Cond) (b0 : Addr)  (h0 : Heap) (n0 : Nat) (Z0 : n0 ≤ h0.size)  :
    MetFree l (⟨"java/util/AbstractSet", "<init>", "()V"⟩ : MethodName) (head1 (Jvm.Cond.code (⟨"java/util/AbstractSet", "<init>", "()V"⟩ : MethodName) jdk_91_method_1_code 1 none :: ws) ({ frames := 2, cells := 0, slots := 0, locals := 24 } : Room)) (fun a U => a = #[(.ref b0)] ∧ Z.Warmed39 U.vm ∧ U.heap = h0) (fun _ _ _ _ _ => True) (fun _ U o U' => ∃ v L, o = .returned v ∧ (QQ_rm5 Z b0 h0 n0) v U'.heap L ∧ FrameEnd U o U' L ({ frames := 2, cells := 0, slots := 0, locals := 24 } : Room).cells ({ frames := 2, cells := 0, slots := 0, locals := 24 } : Room).slots) := by
  refine MetFree.of_bodySF (plainFor_of_name pn_java_util_AbstractSet) hisR ?_
  intro p e s m args below meth c s₁ Bd hml0 hP hK
  obtain ⟨rfl, hZ, hh⟩ := hP
  have hx := Bd.exec
  have hby := Bd.bytes
  have hlk : meth.locks = false := BodyLoose.notSynchronized Bd
  have hml : c.maxLocals = 1 := hml0
  have hown : s.vm.findClass "java/util/AbstractSet" = some m.cls := findClass_of_methodNamed Bd.named
  have hnm := (name_of_methodNamed Bd.named Bd.method).1
  have X0 : Stand p l e ({ frames := 2, cells := 0, slots := 0, locals := 24 } : Room) s m #[(.ref b0)] below meth c s₁ [] 0 0 := Stand.of_body Bd
  have e0 : s₁.heap = h0 := by rw [← hh, Bd.state]; rfl
  have N0 := Fr.nil n0
  show own_G p.tables e below s (QQ_rm5 Z b0 h0 n0) ({ frames := 2, cells := 0, slots := 0, locals := 24 } : Room).cells ({ frames := 2, cells := 0, slots := 0, locals := 24 } : Room).slots (s₁.setTop (entryFrame m #[(.ref b0)] 1))
  refine own_step (B := s₁.setTop (mkF m 0 #[.val (.ref b0)] [])) (fun t k => castTop (ef_rm5 m b0) k) ?_
  refine own_step (B := s₁.setTop (mkF m 1 #[.val (.ref b0)] [(.ref b0)])) (fun t k => XS.aloadN X0.here hx rfl (hb hby d5_0) rfl rfl k) ?_
  obtain ⟨_, _, ⟨T1, L1, k1, n1⟩, -, X1, ⟨Lc1, hQ1, l1, y1, z1⟩, st1⟩ := X0.specialBack hx (y := (⟨"java/util/AbstractCollection", "<init>", "()V"⟩ : MethodName)) rfl hown (mvT hZ (hw _ (List.mem_of_getElem? (i := 28) rfl))) (mvT hZ (hw _ (List.mem_of_getElem? (i := 29) rfl))) (mvT hZ (hw _ (List.mem_of_getElem? (i := 33) rfl))) (by decide) (backOf (W := 0) (rm6 l Z a0 hw [] b0  h0 n0 Z0 ) hZ (hw _ (List.mem_of_getElem? (i := 33) rfl)) (hw _ (List.mem_of_getElem? (i := 32) rfl)) (by decide) (by decide)) (g := (mkF m 1 #[.val (.ref b0)] [(.ref b0)])) rfl (by rw [hml]; rfl) (Steps.refl _) (a := b0) (argsL := []) (rest := []) (lenOf pd_0 rfl) rfl (by show 2 * 0 + _ ≤ _; exact Nat.le_of_eq rfl) (hb hby d5_1) (fun _ _ => ⟨rfl, e0, (by decide : 0 + 0 ≤ _), (by decide : 0 + 0 ≤ _)⟩)
  dsimp only [Pt.U, Pt.locs, Pt.cells, Pt.slots] at X1 l1 y1 z1 st1 hQ1
  subst l1 y1 z1
  obtain ⟨rfl, N1q, e1⟩ := hQ1
  have N0 := Fr.app N0 N1q
  refine own_step (B := T1.setTop (mkF m 4 #[.val (.ref b0)] [])) (fun t k => st1.trans k) ?_
  exact own_retV X1 hx hlk Bd.returns (hb hby d5_4) (by decide) (by decide) (by exact ⟨rfl, N0, e1⟩)
theorem d9_0 : decode jdk_71_method_1_code 0 = .ok (.aload_n 0, 1) := by decide +kernel
theorem d9_1 : decode jdk_71_method_1_code 1 = .ok (.invokespecial 1, 3) := by decide +kernel
theorem d9_4 : decode jdk_71_method_1_code 4 = .ok (.return_, 1) := by decide +kernel
theorem pn_java_util_AbstractMap : plainName "java/util/AbstractMap" = true := by first | (simp [plainName, overriddenIn]; done) | decide +kernel
theorem ef_rm9 (m : MethodId) (x0 : Addr) : entryFrame m #[(.ref x0)] 1 = mkF m 0 #[.val (.ref x0)] [] := by first | (simp [entryFrame, mkF, argsToLocals, Value.category]; done) | rfl
def QQ_rm9 (Z : State) (b0 : Addr)  (h0 : Heap) (n0 : Nat) (v : Option Value) (h : Heap) (L : List Loc) : Prop := v = none ∧ Fr n0 L ∧ h = h0
set_option maxRecDepth 65536 in
set_option maxHeartbeats 40000000 in
theorem rm9 (l : Launch) (Z : State) (a0 : Array Value) (hw : ∀ d ∈ tables_1, d.before a0 Z = true) (ws : List Jvm.Cond) (b0 : Addr)  (h0 : Heap) (n0 : Nat) (Z0 : n0 ≤ h0.size)  :
    MetFree l (⟨"java/util/AbstractMap", "<init>", "()V"⟩ : MethodName) (head1 (Jvm.Cond.code (⟨"java/util/AbstractMap", "<init>", "()V"⟩ : MethodName) jdk_71_method_1_code 1 none :: ws) ({ frames := 1, cells := 0, slots := 0, locals := 12 } : Room)) (fun a U => a = #[(.ref b0)] ∧ Z.Warmed39 U.vm ∧ U.heap = h0) (fun _ _ _ _ _ => True) (fun _ U o U' => ∃ v L, o = .returned v ∧ (QQ_rm9 Z b0 h0 n0) v U'.heap L ∧ FrameEnd U o U' L ({ frames := 1, cells := 0, slots := 0, locals := 12 } : Room).cells ({ frames := 1, cells := 0, slots := 0, locals := 12 } : Room).slots) := by
  refine MetFree.of_bodySF (plainFor_of_name pn_java_util_AbstractMap) hisR ?_
  intro p e s m args below meth c s₁ Bd hml0 hP hK
  obtain ⟨rfl, hZ, hh⟩ := hP
  have hx := Bd.exec
  have hby := Bd.bytes
  have hlk : meth.locks = false := BodyLoose.notSynchronized Bd
  have hml : c.maxLocals = 1 := hml0
  have hown : s.vm.findClass "java/util/AbstractMap" = some m.cls := findClass_of_methodNamed Bd.named
  have hnm := (name_of_methodNamed Bd.named Bd.method).1
  have X0 : Stand p l e ({ frames := 1, cells := 0, slots := 0, locals := 12 } : Room) s m #[(.ref b0)] below meth c s₁ [] 0 0 := Stand.of_body Bd
  have e0 : s₁.heap = h0 := by rw [← hh, Bd.state]; rfl
  have N0 := Fr.nil n0
  show own_G p.tables e below s (QQ_rm9 Z b0 h0 n0) ({ frames := 1, cells := 0, slots := 0, locals := 12 } : Room).cells ({ frames := 1, cells := 0, slots := 0, locals := 12 } : Room).slots (s₁.setTop (entryFrame m #[(.ref b0)] 1))
  refine own_step (B := s₁.setTop (mkF m 0 #[.val (.ref b0)] [])) (fun t k => castTop (ef_rm9 m b0) k) ?_
  refine own_step (B := s₁.setTop (mkF m 1 #[.val (.ref b0)] [(.ref b0)])) (fun t k => XS.aloadN X0.here hx rfl (hb hby d9_0) rfl rfl k) ?_
  obtain ⟨T1, X1, e1, st1⟩ := initO X0 hx hZ hown (hw _ (List.mem_of_getElem? (i := 54) rfl)) (hw _ (List.mem_of_getElem? (i := 7) rfl)) (hw _ (List.mem_of_getElem? (i := 8) rfl)) e0 (g := (mkF m 1 #[.val (.ref b0)] [(.ref b0)])) rfl (by rw [hml]; rfl) rfl (hb hby d9_1) (by decide) (W := 0) (by show 2 * 0 + _ ≤ _; exact Nat.le_of_eq rfl) (by decide)
  refine own_step (B := T1.setTop (mkF m 4 #[.val (.ref b0)] [])) (fun t k => st1 t k) ?_
  exact own_retV X1 hx hlk Bd.returns (hb hby d9_4) (by decide) (by decide) (by exact ⟨rfl, N0, e1⟩)
theorem d10_0 : decode jdk_118_method_6_code 0 = .ok (.fload_n 0, 1) := by decide +kernel
theorem d10_1 : decode jdk_118_method_6_code 1 = .ok (.fload_n 0, 1) := by decide +kernel
theorem d10_2 : decode jdk_118_method_6_code 2 = .ok (.fcmp .l, 1) := by decide +kernel
theorem d10_3 : decode jdk_118_method_6_code 3 = .ok (.ifCond .eq 7, 3) := by decide +kernel
theorem d10_10 : decode jdk_118_method_6_code 10 = .ok (.iconst 0, 1) := by decide +kernel
theorem d10_11 : decode jdk_118_method_6_code 11 = .ok (.ireturn, 1) := by decide +kernel
theorem pn_rm10 : plainFor (⟨"java/lang/Float", "isNaN", "(F)Z"⟩ : MethodName) = true := by first | decide +kernel | (simp [plainFor, overriddenIn]; done)
theorem ef_rm10 (m : MethodId) (x0 : UInt32) : entryFrame m #[(.float x0)] 1 = mkF m 0 #[.val (.float x0)] [] := by first | (simp [entryFrame, mkF, argsToLocals, Value.category]; done) | rfl
def QQ_rm10 (Z : State)   (h0 : Heap) (n0 : Nat) (v : Option Value) (h : Heap) (L : List Loc) : Prop := v = some (.int 0) ∧ Fr n0 L ∧ h = h0
set_option maxRecDepth 65536 in
set_option maxHeartbeats 40000000 in
theorem rm10 (l : Launch) (Z : State) (a0 : Array Value) (hw : ∀ d ∈ tables_1, d.before a0 Z = true) (ws : List Jvm.Cond)   (h0 : Heap) (n0 : Nat) (Z0 : n0 ≤ h0.size)  :
    MetFree l (⟨"java/lang/Float", "isNaN", "(F)Z"⟩ : MethodName) (head1 (Jvm.Cond.code (⟨"java/lang/Float", "isNaN", "(F)Z"⟩ : MethodName) jdk_118_method_6_code 1 (some .boolean) :: ws) ({ frames := 0, cells := 0, slots := 0, locals := 0 } : Room)) (fun a U => a = #[(.float (1061158912 : UInt32))] ∧ Z.Warmed39 U.vm ∧ U.heap = h0) (fun _ _ _ _ _ => True) (fun _ U o U' => ∃ v L, o = .returned v ∧ (QQ_rm10 Z  h0 n0) v U'.heap L ∧ FrameEnd U o U' L ({ frames := 0, cells := 0, slots := 0, locals := 0 } : Room).cells ({ frames := 0, cells := 0, slots := 0, locals := 0 } : Room).slots) := by
  refine MetFree.of_bodySF pn_rm10 hisR ?_
  intro p e s m args below meth c s₁ Bd hml0 hP hK
  obtain ⟨rfl, hZ, hh⟩ := hP
  have hx := Bd.exec
  have hby := Bd.bytes
  have hlk : meth.locks = false := BodyLoose.notSynchronized Bd
  have hml : c.maxLocals = 1 := hml0
  have hown : s.vm.findClass "java/lang/Float" = some m.cls := findClass_of_methodNamed Bd.named
  have hnm := (name_of_methodNamed Bd.named Bd.method).1
  have X0 : Stand p l e ({ frames := 0, cells := 0, slots := 0, locals := 0 } : Room) s m #[(.float (1061158912 : UInt32))] below meth c s₁ [] 0 0 := Stand.of_body Bd
  have e0 : s₁.heap = h0 := by rw [← hh, Bd.state]; rfl
  have N0 := Fr.nil n0
  show own_G p.tables e below s (QQ_rm10 Z  h0 n0) ({ frames := 0, cells := 0, slots := 0, locals := 0 } : Room).cells ({ frames := 0, cells := 0, slots := 0, locals := 0 } : Room).slots (s₁.setTop (entryFrame m #[(.float (1061158912 : UInt32))] 1))
  refine own_step (B := s₁.setTop (mkF m 0 #[.val (.float (1061158912 : UInt32))] [])) (fun t k => castTop (ef_rm10 m (1061158912 : UInt32)) k) ?_
  refine own_step (B := s₁.setTop (mkF m 1 #[.val (.float (1061158912 : UInt32))] [(.float (1061158912 : UInt32))])) (fun t k => own_fload X0 hx (g := (mkF m 0 #[.val (.float (1061158912 : UInt32))] [])) rfl (v := (1061158912 : UInt32)) (hb hby d10_0) rfl t k) ?_
  refine own_step (B := s₁.setTop (mkF m 2 #[.val (.float (1061158912 : UInt32))] [(.float (1061158912 : UInt32)), (.float (1061158912 : UInt32))])) (fun t k => own_fload X0 hx (g := (mkF m 1 #[.val (.float (1061158912 : UInt32))] [(.float (1061158912 : UInt32))])) rfl (v := (1061158912 : UInt32)) (hb hby d10_1) rfl t k) ?_
  refine own_step (B := s₁.setTop (mkF m 3 #[.val (.float (1061158912 : UInt32))] [(.int (0 : Int32))])) (fun t k => own_fcmp X0 hx (g := (mkF m 2 #[.val (.float (1061158912 : UInt32))] [(.float (1061158912 : UInt32)), (.float (1061158912 : UInt32))])) rfl (a := (1061158912 : UInt32)) (b := (1061158912 : UInt32)) (hb hby d10_2) rfl (z := (0 : Int32)) (by decide +kernel) (by decide +kernel) t k) ?_
  refine own_step (B := s₁.setTop (mkF m 10 #[.val (.float (1061158912 : UInt32))] [])) (fun t k => XS.ifYes X0.here hx rfl (pc0 := 3) (pc' := 10) rfl (hb hby d10_3) rfl ((if0 _ _).trans (teq rfl).1) (by decide) (by decide) k) ?_
  refine own_step (B := s₁.setTop (mkF m 11 #[.val (.float (1061158912 : UInt32))] [(.int (0 : Int32))])) (fun t k => XS.iconst X0.here hx rfl (hb hby d10_10) k) ?_
  exact own_retN X0 hx hlk (t := .boolean) Bd.returns (by simp) (hb hby d10_11) (by decide) (by decide) (by exact ⟨rfl, N0, e0⟩)
theorem d12_0 : decode jdk_33_method_47_code 0 = .ok (.iload_n 0, 1) := by decide +kernel
theorem d12_1 : decode jdk_33_method_47_code 1 = .ok (.ifCond .gt 14, 3) := by decide +kernel
theorem d12_15 : decode jdk_33_method_47_code 15 = .ok (.bipush 31, 2) := by decide +kernel
theorem d12_17 : decode jdk_33_method_47_code 17 = .ok (.istore_n 1, 1) := by decide +kernel
theorem d12_18 : decode jdk_33_method_47_code 18 = .ok (.iload_n 0, 1) := by decide +kernel
theorem d12_19 : decode jdk_33_method_47_code 19 = .ok (.ldc_w 264, 3) := by decide +kernel
theorem d12_22 : decode jdk_33_method_47_code 22 = .ok (.if_icmp .lt 11, 3) := by decide +kernel
theorem d12_33 : decode jdk_33_method_47_code 33 = .ok (.iload_n 0, 1) := by decide +kernel
theorem d12_34 : decode jdk_33_method_47_code 34 = .ok (.sipush 256, 3) := by decide +kernel
theorem d12_37 : decode jdk_33_method_47_code 37 = .ok (.if_icmp .lt 11, 3) := by decide +kernel
theorem d12_48 : decode jdk_33_method_47_code 48 = .ok (.iload_n 0, 1) := by decide +kernel
theorem d12_49 : decode jdk_33_method_47_code 49 = .ok (.bipush 16, 2) := by decide +kernel
theorem d12_51 : decode jdk_33_method_47_code 51 = .ok (.if_icmp .lt 10, 3) := by decide +kernel
theorem d12_61 : decode jdk_33_method_47_code 61 = .ok (.iload_n 0, 1) := by decide +kernel
theorem d12_62 : decode jdk_33_method_47_code 62 = .ok (.iconst 4, 1) := by decide +kernel
theorem d12_63 : decode jdk_33_method_47_code 63 = .ok (.if_icmp .lt 10, 3) := by decide +kernel
theorem d12_66 : decode jdk_33_method_47_code 66 = .ok (.iinc 1 (-2), 3) := by decide +kernel
theorem d12_69 : decode jdk_33_method_47_code 69 = .ok (.iload_n 0, 1) := by decide +kernel
theorem d12_70 : decode jdk_33_method_47_code 70 = .ok (.iconst 2, 1) := by decide +kernel
theorem d12_71 : decode jdk_33_method_47_code 71 = .ok (.iushr, 1) := by decide +kernel
theorem d12_72 : decode jdk_33_method_47_code 72 = .ok (.istore_n 0, 1) := by decide +kernel
theorem d12_73 : decode jdk_33_method_47_code 73 = .ok (.iload_n 1, 1) := by decide +kernel
theorem d12_74 : decode jdk_33_method_47_code 74 = .ok (.iload_n 0, 1) := by decide +kernel
theorem d12_75 : decode jdk_33_method_47_code 75 = .ok (.iconst 1, 1) := by decide +kernel
theorem d12_76 : decode jdk_33_method_47_code 76 = .ok (.iushr, 1) := by decide +kernel
theorem d12_77 : decode jdk_33_method_47_code 77 = .ok (.isub, 1) := by decide +kernel
theorem d12_78 : decode jdk_33_method_47_code 78 = .ok (.ireturn, 1) := by decide +kernel
theorem pn_java_lang_Integer : plainName "java/lang/Integer" = true := by first | (simp [plainName, overriddenIn]; done) | decide +kernel
theorem ef_rm12 (m : MethodId) (x0 : Int32) : entryFrame m #[(.int x0)] 2 = mkF m 0 #[.val (.int x0), .unset] [] := by first | (simp [entryFrame, mkF, argsToLocals, Value.category]; done) | rfl
def QQ_rm12 (Z : State)   (h0 : Heap) (n0 : Nat) (v : Option Value) (h : Heap) (L : List Loc) : Prop := v = some (.int 28) ∧ Fr n0 L ∧ h = h0
set_option maxRecDepth 65536 in
set_option maxHeartbeats 40000000 in
theorem rm12 (l : Launch) (Z : State) (a0 : Array Value) (hw : ∀ d ∈ tables_1, d.before a0 Z = true) (ws : List Jvm.Cond)   (h0 : Heap) (n0 : Nat) (Z0 : n0 ≤ h0.size)  :
    MetFree l (⟨"java/lang/Integer", "numberOfLeadingZeros", "(I)I"⟩ : MethodName) (head1 (Jvm.Cond.code (⟨"java/lang/Integer", "numberOfLeadingZeros", "(I)I"⟩ : MethodName) jdk_33_method_47_code 2 (some .int) :: ws) ({ frames := 0, cells := 0, slots := 0, locals := 0 } : Room)) (fun a U => a = #[(.int (15 : Int32))] ∧ Z.Warmed39 U.vm ∧ U.heap = h0) (fun _ _ _ _ _ => True) (fun _ U o U' => ∃ v L, o = .returned v ∧ (QQ_rm12 Z  h0 n0) v U'.heap L ∧ FrameEnd U o U' L ({ frames := 0, cells := 0, slots := 0, locals := 0 } : Room).cells ({ frames := 0, cells := 0, slots := 0, locals := 0 } : Room).slots) := by
  refine MetFree.of_bodySF (plainFor_of_name pn_java_lang_Integer) hisR ?_
  intro p e s m args below meth c s₁ Bd hml0 hP hK
  obtain ⟨rfl, hZ, hh⟩ := hP
  have hx := Bd.exec
  have hby := Bd.bytes
  have hlk : meth.locks = false := BodyLoose.notSynchronized Bd
  have hml : c.maxLocals = 2 := hml0
  have hown : s.vm.findClass "java/lang/Integer" = some m.cls := findClass_of_methodNamed Bd.named
  have hnm := (name_of_methodNamed Bd.named Bd.method).1
  have X0 : Stand p l e ({ frames := 0, cells := 0, slots := 0, locals := 0 } : Room) s m #[(.int (15 : Int32))] below meth c s₁ [] 0 0 := Stand.of_body Bd
  have e0 : s₁.heap = h0 := by rw [← hh, Bd.state]; rfl
  have N0 := Fr.nil n0
  show own_G p.tables e below s (QQ_rm12 Z  h0 n0) ({ frames := 0, cells := 0, slots := 0, locals := 0 } : Room).cells ({ frames := 0, cells := 0, slots := 0, locals := 0 } : Room).slots (s₁.setTop (entryFrame m #[(.int (15 : Int32))] 2))
  refine own_step (B := s₁.setTop (mkF m 0 #[.val (.int (15 : Int32)), .unset] [])) (fun t k => castTop (ef_rm12 m (15 : Int32)) k) ?_
  refine own_step (B := s₁.setTop (mkF m 1 #[.val (.int (15 : Int32)), .unset] [(.int (15 : Int32))])) (fun t k => XS.iloadN X0.here hx rfl (hb hby d12_0) rfl k) ?_
  refine own_step (B := s₁.setTop (mkF m 15 #[.val (.int (15 : Int32)), .unset] [])) (fun t k => XS.ifYes X0.here hx rfl (pc0 := 1) (pc' := 15) rfl (hb hby d12_1) rfl ((if0 _ _).trans (tlt (by decide)).2.2.1) (by decide) (by decide) k) ?_
  refine own_step (B := s₁.setTop (mkF m 17 #[.val (.int (15 : Int32)), .unset] [(.int (31 : Int32))])) (fun t k => XS.bipush X0.here hx rfl (hb hby d12_15) k) ?_
  refine own_step (B := s₁.setTop (mkF m 18 #[.val (.int (15 : Int32)), .val (.int (31 : Int32))] [])) (fun t k => XS.istoreN X0.here hx rfl (hb hby d12_17) rfl (l' := #[.val (.int (15 : Int32)), .val (.int (31 : Int32))]) rfl k) ?_
  refine own_step (B := s₁.setTop (mkF m 19 #[.val (.int (15 : Int32)), .val (.int (31 : Int32))] [(.int (15 : Int32))])) (fun t k => XS.iloadN X0.here hx rfl (hb hby d12_18) rfl k) ?_
  refine own_step (B := s₁.setTop (mkF m 22 #[.val (.int (15 : Int32)), .val (.int (31 : Int32))] [(.int (65536 : Int32)), (.int (15 : Int32))])) (fun t k => X0.ldcWInt hx hown (mvT hZ (hw _ (List.mem_of_getElem? (i := 69) rfl))) (g := (mkF m 19 #[.val (.int (15 : Int32)), .val (.int (31 : Int32))] [(.int (15 : Int32))])) rfl (hb hby d12_19) t k) ?_
  refine own_step (B := s₁.setTop (mkF m 33 #[.val (.int (15 : Int32)), .val (.int (31 : Int32))] [])) (fun t k => XS.icmpYes X0.here hx rfl (pc0 := 22) (pc' := 33) rfl (hb hby d12_22) rfl (tlt (by decide)).1 (by decide) (by decide) k) ?_
  refine own_step (B := s₁.setTop (mkF m 34 #[.val (.int (15 : Int32)), .val (.int (31 : Int32))] [(.int (15 : Int32))])) (fun t k => XS.iloadN X0.here hx rfl (hb hby d12_33) rfl k) ?_
  refine own_step (B := s₁.setTop (mkF m 37 #[.val (.int (15 : Int32)), .val (.int (31 : Int32))] [(.int (256 : Int32)), (.int (15 : Int32))])) (fun t k => XS.sipush X0.here hx rfl (hb hby d12_34) k) ?_
  refine own_step (B := s₁.setTop (mkF m 48 #[.val (.int (15 : Int32)), .val (.int (31 : Int32))] [])) (fun t k => XS.icmpYes X0.here hx rfl (pc0 := 37) (pc' := 48) rfl (hb hby d12_37) rfl (tlt (by decide)).1 (by decide) (by decide) k) ?_
  refine own_step (B := s₁.setTop (mkF m 49 #[.val (.int (15 : Int32)), .val (.int (31 : Int32))] [(.int (15 : Int32))])) (fun t k => XS.iloadN X0.here hx rfl (hb hby d12_48) rfl k) ?_
  refine own_step (B := s₁.setTop (mkF m 51 #[.val (.int (15 : Int32)), .val (.int (31 : Int32))] [(.int (16 : Int32)), (.int (15 : Int32))])) (fun t k => XS.bipush X0.here hx rfl (hb hby d12_49) k) ?_
  refine own_step (B := s₁.setTop (mkF m 61 #[.val (.int (15 : Int32)), .val (.int (31 : Int32))] [])) (fun t k => XS.icmpYes X0.here hx rfl (pc0 := 51) (pc' := 61) rfl (hb hby d12_51) rfl (tlt (by decide)).1 (by decide) (by decide) k) ?_
  refine own_step (B := s₁.setTop (mkF m 62 #[.val (.int (15 : Int32)), .val (.int (31 : Int32))] [(.int (15 : Int32))])) (fun t k => XS.iloadN X0.here hx rfl (hb hby d12_61) rfl k) ?_
  refine own_step (B := s₁.setTop (mkF m 63 #[.val (.int (15 : Int32)), .val (.int (31 : Int32))] [(.int (4 : Int32)), (.int (15 : Int32))])) (fun t k => XS.iconst X0.here hx rfl (hb hby d12_62) k) ?_
  refine own_step (B := s₁.setTop (mkF m 66 #[.val (.int (15 : Int32)), .val (.int (31 : Int32))] [])) (fun t k => XS.icmpNo X0.here hx rfl (hb hby d12_63) rfl (flt (by decide)).1 k) ?_
  refine own_step (B := s₁.setTop (mkF m 69 #[.val (.int (15 : Int32)), .val (.int (29 : Int32))] [])) (fun t k => XS.iinc X0.here hx rfl (hb hby d12_66) rfl (l' := #[.val (.int (15 : Int32)), .val (.int (29 : Int32))]) rfl k) ?_
  refine own_step (B := s₁.setTop (mkF m 70 #[.val (.int (15 : Int32)), .val (.int (29 : Int32))] [(.int (15 : Int32))])) (fun t k => XS.iloadN X0.here hx rfl (hb hby d12_69) rfl k) ?_
  refine own_step (B := s₁.setTop (mkF m 71 #[.val (.int (15 : Int32)), .val (.int (29 : Int32))] [(.int (2 : Int32)), (.int (15 : Int32))])) (fun t k => XS.iconst X0.here hx rfl (hb hby d12_70) k) ?_
  refine own_step (B := s₁.setTop (mkF m 72 #[.val (.int (15 : Int32)), .val (.int (29 : Int32))] [(.int (3 : Int32))])) (fun t k => XS.iushr X0.here hx rfl (hb hby d12_71) rfl k) ?_
  refine own_step (B := s₁.setTop (mkF m 73 #[.val (.int (3 : Int32)), .val (.int (29 : Int32))] [])) (fun t k => XS.istoreN X0.here hx rfl (hb hby d12_72) rfl (l' := #[.val (.int (3 : Int32)), .val (.int (29 : Int32))]) rfl k) ?_
  refine own_step (B := s₁.setTop (mkF m 74 #[.val (.int (3 : Int32)), .val (.int (29 : Int32))] [(.int (29 : Int32))])) (fun t k => XS.iloadN X0.here hx rfl (hb hby d12_73) rfl k) ?_
  refine own_step (B := s₁.setTop (mkF m 75 #[.val (.int (3 : Int32)), .val (.int (29 : Int32))] [(.int (3 : Int32)), (.int (29 : Int32))])) (fun t k => XS.iloadN X0.here hx rfl (hb hby d12_74) rfl k) ?_
  refine own_step (B := s₁.setTop (mkF m 76 #[.val (.int (3 : Int32)), .val (.int (29 : Int32))] [(.int (1 : Int32)), (.int (3 : Int32)), (.int (29 : Int32))])) (fun t k => XS.iconst X0.here hx rfl (hb hby d12_75) k) ?_
  refine own_step (B := s₁.setTop (mkF m 77 #[.val (.int (3 : Int32)), .val (.int (29 : Int32))] [(.int (1 : Int32)), (.int (29 : Int32))])) (fun t k => XS.iushr X0.here hx rfl (hb hby d12_76) rfl k) ?_
  refine own_step (B := s₁.setTop (mkF m 78 #[.val (.int (3 : Int32)), .val (.int (29 : Int32))] [(.int (28 : Int32))])) (fun t k => XS.isub X0.here hx rfl (hb hby d12_77) rfl k) ?_
  exact own_retI X0 hx hlk Bd.returns (hb hby d12_78) (by decide) (by decide) (by exact ⟨rfl, N0, e0⟩)
theorem d11_0 : decode jdk_69_method_4_code 0 = .ok (.iconst (-1), 1) := by decide +kernel
theorem d11_1 : decode jdk_69_method_4_code 1 = .ok (.iload_n 0, 1) := by decide +kernel
theorem d11_2 : decode jdk_69_method_4_code 2 = .ok (.iconst 1, 1) := by decide +kernel
theorem d11_3 : decode jdk_69_method_4_code 3 = .ok (.isub, 1) := by decide +kernel
theorem d11_4 : decode jdk_69_method_4_code 4 = .ok (.invokestatic 34, 3) := by decide +kernel
theorem d11_7 : decode jdk_69_method_4_code 7 = .ok (.iushr, 1) := by decide +kernel
theorem d11_8 : decode jdk_69_method_4_code 8 = .ok (.istore_n 1, 1) := by decide +kernel
theorem d11_9 : decode jdk_69_method_4_code 9 = .ok (.iload_n 1, 1) := by decide +kernel
theorem d11_10 : decode jdk_69_method_4_code 10 = .ok (.ifCond .ge 7, 3) := by decide +kernel
theorem d11_17 : decode jdk_69_method_4_code 17 = .ok (.iload_n 1, 1) := by decide +kernel
theorem d11_18 : decode jdk_69_method_4_code 18 = .ok (.ldc 42, 2) := by decide +kernel
theorem d11_20 : decode jdk_69_method_4_code 20 = .ok (.if_icmp .lt 8, 3) := by decide +kernel
theorem d11_28 : decode jdk_69_method_4_code 28 = .ok (.iload_n 1, 1) := by decide +kernel
theorem d11_29 : decode jdk_69_method_4_code 29 = .ok (.iconst 1, 1) := by decide +kernel
theorem d11_30 : decode jdk_69_method_4_code 30 = .ok (.iadd, 1) := by decide +kernel
theorem d11_31 : decode jdk_69_method_4_code 31 = .ok (.ireturn, 1) := by decide +kernel
theorem pn_java_util_HashMap : plainName "java/util/HashMap" = true := by first | (simp [plainName, overriddenIn]; done) | decide +kernel
theorem ef_rm11 (m : MethodId) (x0 : Int32) : entryFrame m #[(.int x0)] 2 = mkF m 0 #[.val (.int x0), .unset] [] := by first | (simp [entryFrame, mkF, argsToLocals, Value.category]; done) | rfl
def QQ_rm11 (Z : State)   (h0 : Heap) (n0 : Nat) (v : Option Value) (h : Heap) (L : List Loc) : Prop := v = some (.int 16) ∧ Fr n0 L ∧ h = h0
set_option maxRecDepth 65536 in
set_option maxHeartbeats 40000000 in
theorem rm11 (l : Launch) (Z : State) (a0 : Array Value) (hw : ∀ d ∈ tables_1, d.before a0 Z = true) (ws : List Jvm.Cond)   (h0 : Heap) (n0 : Nat) (Z0 : n0 ≤ h0.size)  :
    MetFree l (⟨"java/util/HashMap", "tableSizeFor", "(I)I"⟩ : MethodName) (head1 (Jvm.Cond.code (⟨"java/util/HashMap", "tableSizeFor", "(I)I"⟩ : MethodName) jdk_69_method_4_code 2 (some .int) :: ws) ({ frames := 1, cells := 0, slots := 0, locals := 14 } : Room)) (fun a U => a = #[(.int (16 : Int32))] ∧ Z.Warmed39 U.vm ∧ U.heap = h0) (fun _ _ _ _ _ => True) (fun _ U o U' => ∃ v L, o = .returned v ∧ (QQ_rm11 Z  h0 n0) v U'.heap L ∧ FrameEnd U o U' L ({ frames := 1, cells := 0, slots := 0, locals := 14 } : Room).cells ({ frames := 1, cells := 0, slots := 0, locals := 14 } : Room).slots) := by
  refine MetFree.of_bodySF (plainFor_of_name pn_java_util_HashMap) hisR ?_
  intro p e s m args below meth c s₁ Bd hml0 hP hK
  obtain ⟨rfl, hZ, hh⟩ := hP
  have hx := Bd.exec
  have hby := Bd.bytes
  have hlk : meth.locks = false := BodyLoose.notSynchronized Bd
  have hml : c.maxLocals = 2 := hml0
  have hown : s.vm.findClass "java/util/HashMap" = some m.cls := findClass_of_methodNamed Bd.named
  have hnm := (name_of_methodNamed Bd.named Bd.method).1
  have X0 : Stand p l e ({ frames := 1, cells := 0, slots := 0, locals := 14 } : Room) s m #[(.int (16 : Int32))] below meth c s₁ [] 0 0 := Stand.of_body Bd
  have e0 : s₁.heap = h0 := by rw [← hh, Bd.state]; rfl
  have N0 := Fr.nil n0
  show own_G p.tables e below s (QQ_rm11 Z  h0 n0) ({ frames := 1, cells := 0, slots := 0, locals := 14 } : Room).cells ({ frames := 1, cells := 0, slots := 0, locals := 14 } : Room).slots (s₁.setTop (entryFrame m #[(.int (16 : Int32))] 2))
  refine own_step (B := s₁.setTop (mkF m 0 #[.val (.int (16 : Int32)), .unset] [])) (fun t k => castTop (ef_rm11 m (16 : Int32)) k) ?_
  refine own_step (B := s₁.setTop (mkF m 1 #[.val (.int (16 : Int32)), .unset] [(.int (-1 : Int32))])) (fun t k => XS.iconst X0.here hx rfl (hb hby d11_0) k) ?_
  refine own_step (B := s₁.setTop (mkF m 2 #[.val (.int (16 : Int32)), .unset] [(.int (16 : Int32)), (.int (-1 : Int32))])) (fun t k => XS.iloadN X0.here hx rfl (hb hby d11_1) rfl k) ?_
  refine own_step (B := s₁.setTop (mkF m 3 #[.val (.int (16 : Int32)), .unset] [(.int (1 : Int32)), (.int (16 : Int32)), (.int (-1 : Int32))])) (fun t k => XS.iconst X0.here hx rfl (hb hby d11_2) k) ?_
  refine own_step (B := s₁.setTop (mkF m 4 #[.val (.int (16 : Int32)), .unset] [(.int (15 : Int32)), (.int (-1 : Int32))])) (fun t k => XS.isub X0.here hx rfl (hb hby d11_3) rfl k) ?_
  obtain ⟨_, _, ⟨T1, L1, k1, n1⟩, -, X1, ⟨Lc1, hQ1, l1, y1, z1⟩, st1⟩ := Jvm.LawKit.callS X0 hx (y := (⟨"java/lang/Integer", "numberOfLeadingZeros", "(I)I"⟩ : MethodName)) hown (mvT hZ (hw _ (List.mem_of_getElem? (i := 65) rfl))) (mvT hZ (hw _ (List.mem_of_getElem? (i := 66) rfl))) (mvT hZ (hw _ (List.mem_of_getElem? (i := 67) rfl))) (mvT hZ (hw _ (List.mem_of_getElem? (i := 68) rfl))) (by decide) (backOf (W := 1) (rm12 l Z a0 hw []   h0 n0 Z0 ) hZ (hw _ (List.mem_of_getElem? (i := 68) rfl)) (hw _ (List.mem_of_getElem? (i := 67) rfl)) (by decide) (by decide)) (g := (mkF m 4 #[.val (.int (16 : Int32)), .unset] [(.int (15 : Int32)), (.int (-1 : Int32))])) rfl (by rw [hml]; rfl) (argsL := [(.int (15 : Int32))]) (rest := [(.int (-1 : Int32))]) (lenOf pd_1 rfl) rfl (by show 2 * 0 + _ ≤ _; exact Nat.le_of_eq rfl) (hb hby d11_4) (fun _ _ => ⟨rfl, e0, (by decide : 0 + 0 ≤ _), (by decide : 0 + 0 ≤ _)⟩)
  dsimp only [Pt.U, Pt.locs, Pt.cells, Pt.slots] at X1 l1 y1 z1 st1 hQ1
  subst l1 y1 z1
  obtain ⟨rfl, N1q, e1⟩ := hQ1
  have N0 := Fr.app N0 N1q
  refine own_step (B := T1.setTop (mkF m 7 #[.val (.int (16 : Int32)), .unset] [(.int (28 : Int32)), (.int (-1 : Int32))])) (fun t k => st1 t k) ?_
  refine own_step (B := T1.setTop (mkF m 8 #[.val (.int (16 : Int32)), .unset] [(.int (15 : Int32))])) (fun t k => XS.iushr X1.here hx rfl (hb hby d11_7) rfl k) ?_
  refine own_step (B := T1.setTop (mkF m 9 #[.val (.int (16 : Int32)), .val (.int (15 : Int32))] [])) (fun t k => XS.istoreN X1.here hx rfl (hb hby d11_8) rfl (l' := #[.val (.int (16 : Int32)), .val (.int (15 : Int32))]) rfl k) ?_
  refine own_step (B := T1.setTop (mkF m 10 #[.val (.int (16 : Int32)), .val (.int (15 : Int32))] [(.int (15 : Int32))])) (fun t k => XS.iloadN X1.here hx rfl (hb hby d11_9) rfl k) ?_
  refine own_step (B := T1.setTop (mkF m 17 #[.val (.int (16 : Int32)), .val (.int (15 : Int32))] [])) (fun t k => XS.ifYes X1.here hx rfl (pc0 := 10) (pc' := 17) rfl (hb hby d11_10) rfl ((if0 _ _).trans (flt (by decide)).2.1) (by decide) (by decide) k) ?_
  refine own_step (B := T1.setTop (mkF m 18 #[.val (.int (16 : Int32)), .val (.int (15 : Int32))] [(.int (15 : Int32))])) (fun t k => XS.iloadN X1.here hx rfl (hb hby d11_17) rfl k) ?_
  refine own_step (B := T1.setTop (mkF m 20 #[.val (.int (16 : Int32)), .val (.int (15 : Int32))] [(.int (1073741824 : Int32)), (.int (15 : Int32))])) (fun t k => X1.ldcInt hx hown (mvT hZ (hw _ (List.mem_of_getElem? (i := 55) rfl))) (g := (mkF m 18 #[.val (.int (16 : Int32)), .val (.int (15 : Int32))] [(.int (15 : Int32))])) rfl (hb hby d11_18) t k) ?_
  refine own_step (B := T1.setTop (mkF m 28 #[.val (.int (16 : Int32)), .val (.int (15 : Int32))] [])) (fun t k => XS.icmpYes X1.here hx rfl (pc0 := 20) (pc' := 28) rfl (hb hby d11_20) rfl (tlt (by decide)).1 (by decide) (by decide) k) ?_
  refine own_step (B := T1.setTop (mkF m 29 #[.val (.int (16 : Int32)), .val (.int (15 : Int32))] [(.int (15 : Int32))])) (fun t k => XS.iloadN X1.here hx rfl (hb hby d11_28) rfl k) ?_
  refine own_step (B := T1.setTop (mkF m 30 #[.val (.int (16 : Int32)), .val (.int (15 : Int32))] [(.int (1 : Int32)), (.int (15 : Int32))])) (fun t k => XS.iconst X1.here hx rfl (hb hby d11_29) k) ?_
  refine own_step (B := T1.setTop (mkF m 31 #[.val (.int (16 : Int32)), .val (.int (15 : Int32))] [(.int (16 : Int32))])) (fun t k => XS.iadd X1.here hx rfl (hb hby d11_30) rfl k) ?_
  exact own_retI X1 hx hlk Bd.returns (hb hby d11_31) (by decide) (by decide) (by exact ⟨rfl, N0, e1⟩)
theorem d8_0 : decode jdk_69_method_5_code 0 = .ok (.aload_n 0, 1) := by decide +kernel
theorem d8_1 : decode jdk_69_method_5_code 1 = .ok (.invokespecial 43, 3) := by decide +kernel
theorem d8_4 : decode jdk_69_method_5_code 4 = .ok (.iload_n 1, 1) := by decide +kernel
theorem d8_5 : decode jdk_69_method_5_code 5 = .ok (.ifCond .ge 30, 3) := by decide +kernel
theorem d8_35 : decode jdk_69_method_5_code 35 = .ok (.iload_n 1, 1) := by decide +kernel
theorem d8_36 : decode jdk_69_method_5_code 36 = .ok (.ldc 42, 2) := by decide +kernel
theorem d8_38 : decode jdk_69_method_5_code 38 = .ok (.if_icmp .le 6, 3) := by decide +kernel
theorem d8_44 : decode jdk_69_method_5_code 44 = .ok (.fload_n 2, 1) := by decide +kernel
theorem d8_45 : decode jdk_69_method_5_code 45 = .ok (.fconst 0, 1) := by decide +kernel
theorem d8_46 : decode jdk_69_method_5_code 46 = .ok (.fcmp .g, 1) := by decide +kernel
theorem d8_47 : decode jdk_69_method_5_code 47 = .ok (.ifCond .le 10, 3) := by decide +kernel
theorem d8_50 : decode jdk_69_method_5_code 50 = .ok (.fload_n 2, 1) := by decide +kernel
theorem d8_51 : decode jdk_69_method_5_code 51 = .ok (.invokestatic 70, 3) := by decide +kernel
theorem d8_54 : decode jdk_69_method_5_code 54 = .ok (.ifCond .eq 30, 3) := by decide +kernel
theorem d8_84 : decode jdk_69_method_5_code 84 = .ok (.aload_n 0, 1) := by decide +kernel
theorem d8_85 : decode jdk_69_method_5_code 85 = .ok (.fload_n 2, 1) := by decide +kernel
theorem d8_86 : decode jdk_69_method_5_code 86 = .ok (.putfield 81, 3) := by decide +kernel
theorem d8_89 : decode jdk_69_method_5_code 89 = .ok (.aload_n 0, 1) := by decide +kernel
theorem d8_90 : decode jdk_69_method_5_code 90 = .ok (.iload_n 1, 1) := by decide +kernel
theorem d8_91 : decode jdk_69_method_5_code 91 = .ok (.invokestatic 85, 3) := by decide +kernel
theorem d8_94 : decode jdk_69_method_5_code 94 = .ok (.putfield 88, 3) := by decide +kernel
theorem d8_97 : decode jdk_69_method_5_code 97 = .ok (.return_, 1) := by decide +kernel
theorem ef_rm8 (m : MethodId) (x0 : Addr) (x1 : Int32) (x2 : UInt32) : entryFrame m #[(.ref x0), (.int x1), (.float x2)] 3 = mkF m 0 #[.val (.ref x0), .val (.int x1), .val (.float x2)] [] := by first | (simp [entryFrame, mkF, argsToLocals, Value.category]; done) | rfl
def QQ_rm8 (Z : State) (b0 : Addr)  (h0 : Heap) (n0 : Nat) (v : Option Value) (h : Heap) (L : List Loc) : Prop := v = none ∧ Fr n0 L ∧ Keep h0 h [b0] ∧ Fld Z h b0 "java/util/LinkedHashMap" "putMode" "I" (.int (0 : Int32)) ∧ Fld Z h b0 "java/util/LinkedHashMap" "accessOrder" "Z" (.int (0 : Int32))
set_option maxRecDepth 65536 in
set_option maxHeartbeats 40000000 in
theorem rm8 (l : Launch) (Z : State) (a0 : Array Value) (hw : ∀ d ∈ tables_1, d.before a0 Z = true) (ws : List Jvm.Cond) (b0 : Addr)  (h0 : Heap) (n0 : Nat) (Z0 : n0 ≤ h0.size) (E_b0 : Exa Z h0 b0 "java/util/LinkedHashMap") (g_b0 : n0 ≤ b0) (F_loadFactor_b0 : Fld Z h0 b0 "java/util/HashMap" "loadFactor" "F" (.float 0)) (F_threshold_b0 : Fld Z h0 b0 "java/util/HashMap" "threshold" "I" (.int (0 : Int32))) (F_putMode_b0 : Fld Z h0 b0 "java/util/LinkedHashMap" "putMode" "I" (.int (0 : Int32))) (F_accessOrder_b0 : Fld Z h0 b0 "java/util/LinkedHashMap" "accessOrder" "Z" (.int (0 : Int32))) :
    MetFree l (⟨"java/util/HashMap", "<init>", "(IF)V"⟩ : MethodName) (head1 (Jvm.Cond.code (⟨"java/util/HashMap", "<init>", "(IF)V"⟩ : MethodName) jdk_69_method_5_code 3 none :: ws) ({ frames := 2, cells := 0, slots := 0, locals := 28 } : Room)) (fun a U => a = #[(.ref b0), (.int (16 : Int32)), (.float (1061158912 : UInt32))] ∧ Z.Warmed39 U.vm ∧ U.heap = h0) (fun _ _ _ _ _ => True) (fun _ U o U' => ∃ v L, o = .returned v ∧ (QQ_rm8 Z b0 h0 n0) v U'.heap L ∧ FrameEnd U o U' L ({ frames := 2, cells := 0, slots := 0, locals := 28 } : Room).cells ({ frames := 2, cells := 0, slots := 0, locals := 28 } : Room).slots) := by
  refine MetFree.of_bodySF (plainFor_of_name pn_java_util_HashMap) hisR ?_
  intro p e s m args below meth c s₁ Bd hml0 hP hK
  obtain ⟨rfl, hZ, hh⟩ := hP
  have hx := Bd.exec
  have hby := Bd.bytes
  have hlk : meth.locks = false := BodyLoose.notSynchronized Bd
  have hml : c.maxLocals = 3 := hml0
  have hown : s.vm.findClass "java/util/HashMap" = some m.cls := findClass_of_methodNamed Bd.named
  have hnm := (name_of_methodNamed Bd.named Bd.method).1
  have X0 : Stand p l e ({ frames := 2, cells := 0, slots := 0, locals := 28 } : Room) s m #[(.ref b0), (.int (16 : Int32)), (.float (1061158912 : UInt32))] below meth c s₁ [] 0 0 := Stand.of_body Bd
  have e0 : s₁.heap = h0 := by rw [← hh, Bd.state]; rfl
  have N0 := Fr.nil n0
  show own_G p.tables e below s (QQ_rm8 Z b0 h0 n0) ({ frames := 2, cells := 0, slots := 0, locals := 28 } : Room).cells ({ frames := 2, cells := 0, slots := 0, locals := 28 } : Room).slots (s₁.setTop (entryFrame m #[(.ref b0), (.int (16 : Int32)), (.float (1061158912 : UInt32))] 3))
  refine own_step (B := s₁.setTop (mkF m 0 #[.val (.ref b0), .val (.int (16 : Int32)), .val (.float (1061158912 : UInt32))] [])) (fun t k => castTop (ef_rm8 m b0 (16 : Int32) (1061158912 : UInt32)) k) ?_
  have K0 := Keep.refl h0 [b0]
  refine own_step (B := s₁.setTop (mkF m 1 #[.val (.ref b0), .val (.int (16 : Int32)), .val (.float (1061158912 : UInt32))] [(.ref b0)])) (fun t k => XS.aloadN X0.here hx rfl (hb hby d8_0) rfl rfl k) ?_
  obtain ⟨_, _, ⟨T1, L1, k1, n1⟩, -, X1, ⟨Lc1, hQ1, l1, y1, z1⟩, st1⟩ := X0.specialBack hx (y := (⟨"java/util/AbstractMap", "<init>", "()V"⟩ : MethodName)) rfl hown (mvT hZ (hw _ (List.mem_of_getElem? (i := 48) rfl))) (mvT hZ (hw _ (List.mem_of_getElem? (i := 49) rfl))) (mvT hZ (hw _ (List.mem_of_getElem? (i := 53) rfl))) (by decide) (backOf (W := 0) (rm9 l Z a0 hw [] b0  h0 n0 Z0 ) hZ (hw _ (List.mem_of_getElem? (i := 53) rfl)) (hw _ (List.mem_of_getElem? (i := 52) rfl)) (by decide) (by decide)) (g := (mkF m 1 #[.val (.ref b0), .val (.int (16 : Int32)), .val (.float (1061158912 : UInt32))] [(.ref b0)])) rfl (by rw [hml]; rfl) (Steps.refl _) (a := b0) (argsL := []) (rest := []) (lenOf pd_0 rfl) rfl (by show 2 * 0 + _ ≤ _; exact Nat.le_of_eq rfl) (hb hby d8_1) (fun _ _ => ⟨rfl, e0, (by decide : 0 + 0 ≤ _), (by decide : 0 + 0 ≤ _)⟩)
  dsimp only [Pt.U, Pt.locs, Pt.cells, Pt.slots] at X1 l1 y1 z1 st1 hQ1
  subst l1 y1 z1
  obtain ⟨rfl, N1q, e1⟩ := hQ1
  have N0 := Fr.app N0 N1q
  refine own_step (B := T1.setTop (mkF m 4 #[.val (.ref b0), .val (.int (16 : Int32)), .val (.float (1061158912 : UInt32))] [])) (fun t k => st1.trans k) ?_
  refine own_step (B := T1.setTop (mkF m 5 #[.val (.ref b0), .val (.int (16 : Int32)), .val (.float (1061158912 : UInt32))] [(.int (16 : Int32))])) (fun t k => XS.iloadN X1.here hx rfl (hb hby d8_4) rfl k) ?_
  refine own_step (B := T1.setTop (mkF m 35 #[.val (.ref b0), .val (.int (16 : Int32)), .val (.float (1061158912 : UInt32))] [])) (fun t k => XS.ifYes X1.here hx rfl (pc0 := 5) (pc' := 35) rfl (hb hby d8_5) rfl ((if0 _ _).trans (flt (by decide)).2.1) (by decide) (by decide) k) ?_
  refine own_step (B := T1.setTop (mkF m 36 #[.val (.ref b0), .val (.int (16 : Int32)), .val (.float (1061158912 : UInt32))] [(.int (16 : Int32))])) (fun t k => XS.iloadN X1.here hx rfl (hb hby d8_35) rfl k) ?_
  refine own_step (B := T1.setTop (mkF m 38 #[.val (.ref b0), .val (.int (16 : Int32)), .val (.float (1061158912 : UInt32))] [(.int (1073741824 : Int32)), (.int (16 : Int32))])) (fun t k => X1.ldcInt hx hown (mvT hZ (hw _ (List.mem_of_getElem? (i := 55) rfl))) (g := (mkF m 36 #[.val (.ref b0), .val (.int (16 : Int32)), .val (.float (1061158912 : UInt32))] [(.int (16 : Int32))])) rfl (hb hby d8_36) t k) ?_
  refine own_step (B := T1.setTop (mkF m 44 #[.val (.ref b0), .val (.int (16 : Int32)), .val (.float (1061158912 : UInt32))] [])) (fun t k => XS.icmpYes X1.here hx rfl (pc0 := 38) (pc' := 44) rfl (hb hby d8_38) rfl (flt (by decide)).2.2.2 (by decide) (by decide) k) ?_
  refine own_step (B := T1.setTop (mkF m 45 #[.val (.ref b0), .val (.int (16 : Int32)), .val (.float (1061158912 : UInt32))] [(.float (1061158912 : UInt32))])) (fun t k => own_fload X1 hx (g := (mkF m 44 #[.val (.ref b0), .val (.int (16 : Int32)), .val (.float (1061158912 : UInt32))] [])) rfl (v := (1061158912 : UInt32)) (hb hby d8_44) rfl t k) ?_
  refine own_step (B := T1.setTop (mkF m 46 #[.val (.ref b0), .val (.int (16 : Int32)), .val (.float (1061158912 : UInt32))] [(.float (0 : UInt32)), (.float (1061158912 : UInt32))])) (fun t k => own_fconst0 X1 hx (g := (mkF m 45 #[.val (.ref b0), .val (.int (16 : Int32)), .val (.float (1061158912 : UInt32))] [(.float (1061158912 : UInt32))])) rfl (hb hby d8_45) t k) ?_
  refine own_step (B := T1.setTop (mkF m 47 #[.val (.ref b0), .val (.int (16 : Int32)), .val (.float (1061158912 : UInt32))] [(.int (1 : Int32))])) (fun t k => own_fcmp X1 hx (g := (mkF m 46 #[.val (.ref b0), .val (.int (16 : Int32)), .val (.float (1061158912 : UInt32))] [(.float (0 : UInt32)), (.float (1061158912 : UInt32))])) rfl (a := (1061158912 : UInt32)) (b := (0 : UInt32)) (hb hby d8_46) rfl (z := (1 : Int32)) (by decide +kernel) (by decide +kernel) t k) ?_
  refine own_step (B := T1.setTop (mkF m 50 #[.val (.ref b0), .val (.int (16 : Int32)), .val (.float (1061158912 : UInt32))] [])) (fun t k => XS.ifNo X1.here hx rfl (hb hby d8_47) rfl ((if0 _ _).trans (tlt (by decide)).2.2.2) k) ?_
  refine own_step (B := T1.setTop (mkF m 51 #[.val (.ref b0), .val (.int (16 : Int32)), .val (.float (1061158912 : UInt32))] [(.float (1061158912 : UInt32))])) (fun t k => own_fload X1 hx (g := (mkF m 50 #[.val (.ref b0), .val (.int (16 : Int32)), .val (.float (1061158912 : UInt32))] [])) rfl (v := (1061158912 : UInt32)) (hb hby d8_50) rfl t k) ?_
  obtain ⟨_, _, ⟨T2, L2, k2, n2⟩, -, X2, ⟨Lc2, hQ2, l2, y2, z2⟩, st2⟩ := Jvm.LawKit.callS X1 hx (y := (⟨"java/lang/Float", "isNaN", "(F)Z"⟩ : MethodName)) hown (mvT hZ (hw _ (List.mem_of_getElem? (i := 56) rfl))) (mvT hZ (hw _ (List.mem_of_getElem? (i := 57) rfl))) (mvT hZ (hw _ (List.mem_of_getElem? (i := 58) rfl))) (mvT hZ (hw _ (List.mem_of_getElem? (i := 59) rfl))) (by decide) (backOf (W := 0) (rm10 l Z a0 hw []   h0 n0 Z0 ) hZ (hw _ (List.mem_of_getElem? (i := 59) rfl)) (hw _ (List.mem_of_getElem? (i := 58) rfl)) (by decide) (by decide)) (g := (mkF m 51 #[.val (.ref b0), .val (.int (16 : Int32)), .val (.float (1061158912 : UInt32))] [(.float (1061158912 : UInt32))])) rfl (by rw [hml]; rfl) (argsL := [(.float (1061158912 : UInt32))]) (rest := []) (lenOf pd_2 rfl) rfl (by show 2 * 0 + _ ≤ _; exact Nat.le_of_eq rfl) (hb hby d8_51) (fun _ _ => ⟨rfl, e1, (by decide : 0 + 0 ≤ _), (by decide : 0 + 0 ≤ _)⟩)
  dsimp only [Pt.U, Pt.locs, Pt.cells, Pt.slots] at X2 l2 y2 z2 st2 hQ2
  subst l2 y2 z2
  obtain ⟨rfl, N2q, e2⟩ := hQ2
  have N0 := Fr.app N0 N2q
  refine own_step (B := T2.setTop (mkF m 54 #[.val (.ref b0), .val (.int (16 : Int32)), .val (.float (1061158912 : UInt32))] [(.int (0 : Int32))])) (fun t k => st2 t k) ?_
  refine own_step (B := T2.setTop (mkF m 84 #[.val (.ref b0), .val (.int (16 : Int32)), .val (.float (1061158912 : UInt32))] [])) (fun t k => XS.ifYes X2.here hx rfl (pc0 := 54) (pc' := 84) rfl (hb hby d8_54) rfl ((if0 _ _).trans (teq rfl).1) (by decide) (by decide) k) ?_
  refine own_step (B := T2.setTop (mkF m 85 #[.val (.ref b0), .val (.int (16 : Int32)), .val (.float (1061158912 : UInt32))] [(.ref b0)])) (fun t k => XS.aloadN X2.here hx rfl (hb hby d8_84) rfl rfl k) ?_
  refine own_step (B := T2.setTop (mkF m 86 #[.val (.ref b0), .val (.int (16 : Int32)), .val (.float (1061158912 : UInt32))] [(.float (1061158912 : UInt32)), (.ref b0)])) (fun t k => own_fload X2 hx (g := (mkF m 85 #[.val (.ref b0), .val (.int (16 : Int32)), .val (.float (1061158912 : UInt32))] [(.ref b0)])) rfl (v := (1061158912 : UInt32)) (hb hby d8_85) rfl t k) ?_
  obtain ⟨T3, h3, X3, e3, W3, st3⟩ := putF X2 hx hZ hown (host := "") (Or.inl (hw _ (List.mem_of_getElem? (i := 60) rfl))) Via.refl e2 F_loadFactor_b0 E_b0 (Or.inr ⟨(hw _ (List.mem_of_getElem? (i := 61) rfl)), rfl, hnm⟩) (hw _ (List.mem_of_getElem? (i := 36) rfl)) (ty := .float) (by decide) rfl rfl (g := (mkF m 86 #[.val (.ref b0), .val (.int (16 : Int32)), .val (.float (1061158912 : UInt32))] [(.float (1061158912 : UInt32)), (.ref b0)])) rfl rfl (hb hby d8_86)
  have E_b0 := E_b0.wr W3
  have F_loadFactor_b0 := F_loadFactor_b0.same W3
  have F_threshold_b0 := F_threshold_b0.other W3 (Or.inr (slot_ne (Or.inl (hw _ (List.mem_of_getElem? (i := 71) rfl))) (Or.inr (hw _ (List.mem_of_getElem? (i := 61) rfl))) (by decide) (t := .int) (t' := .float) (by decide) (by decide)))
  have F_putMode_b0 := F_putMode_b0.other W3 (Or.inr (slot_ne (Or.inl (hw _ (List.mem_of_getElem? (i := 73) rfl))) (Or.inr (hw _ (List.mem_of_getElem? (i := 61) rfl))) (by decide) (t := .int) (t' := .float) (by decide) (by decide)))
  have F_accessOrder_b0 := F_accessOrder_b0.other W3 (Or.inr (slot_ne (Or.inr (hw _ (List.mem_of_getElem? (i := 75) rfl))) (Or.inr (hw _ (List.mem_of_getElem? (i := 61) rfl))) (by decide) (t := .boolean) (t' := .float) (by decide) (by decide)))
  have Z0 := Nat.le_trans Z0 (Keep.of_wr W3).1
  have K0 := K0.wr W3 (Or.inl (List.mem_of_getElem? (i := 0) rfl))
  have N0 := Fr.snoc X3 N0 g_b0
  refine own_step (B := T3.setTop (mkF m 89 #[.val (.ref b0), .val (.int (16 : Int32)), .val (.float (1061158912 : UInt32))] [])) (fun t k => st3 t k) ?_
  refine own_step (B := T3.setTop (mkF m 90 #[.val (.ref b0), .val (.int (16 : Int32)), .val (.float (1061158912 : UInt32))] [(.ref b0)])) (fun t k => XS.aloadN X3.here hx rfl (hb hby d8_89) rfl rfl k) ?_
  refine own_step (B := T3.setTop (mkF m 91 #[.val (.ref b0), .val (.int (16 : Int32)), .val (.float (1061158912 : UInt32))] [(.int (16 : Int32)), (.ref b0)])) (fun t k => XS.iloadN X3.here hx rfl (hb hby d8_90) rfl k) ?_
  obtain ⟨_, _, ⟨T4, L4, k4, n4⟩, -, X4, ⟨Lc4, hQ4, l4, y4, z4⟩, st4⟩ := Jvm.LawKit.callS X3 hx (y := (⟨"java/util/HashMap", "tableSizeFor", "(I)I"⟩ : MethodName)) hown (mvT hZ (hw _ (List.mem_of_getElem? (i := 62) rfl))) (mvT hZ (hw _ (List.mem_of_getElem? (i := 63) rfl))) (mvT hZ (hw _ (List.mem_of_getElem? (i := 46) rfl))) (mvT hZ (hw _ (List.mem_of_getElem? (i := 64) rfl))) (by decide) (backOf (W := 1) (rm11 l Z a0 hw []   h3 n0 Z0 ) hZ (hw _ (List.mem_of_getElem? (i := 64) rfl)) (hw _ (List.mem_of_getElem? (i := 46) rfl)) (by decide) (by decide)) (g := (mkF m 91 #[.val (.ref b0), .val (.int (16 : Int32)), .val (.float (1061158912 : UInt32))] [(.int (16 : Int32)), (.ref b0)])) rfl (by rw [hml]; rfl) (argsL := [(.int (16 : Int32))]) (rest := [(.ref b0)]) (lenOf pd_1 rfl) rfl (by show 2 * 0 + _ ≤ _; exact Nat.le_of_eq rfl) (hb hby d8_91) (fun _ _ => ⟨rfl, e3, (by decide : 0 + 0 ≤ _), (by decide : 0 + 0 ≤ _)⟩)
  dsimp only [Pt.U, Pt.locs, Pt.cells, Pt.slots] at X4 l4 y4 z4 st4 hQ4
  subst l4 y4 z4
  obtain ⟨rfl, N4q, e4⟩ := hQ4
  have N0 := Fr.app N0 N4q
  refine own_step (B := T4.setTop (mkF m 94 #[.val (.ref b0), .val (.int (16 : Int32)), .val (.float (1061158912 : UInt32))] [(.int (16 : Int32)), (.ref b0)])) (fun t k => st4 t k) ?_
  obtain ⟨T5, h5, X5, e5, W5, st5⟩ := putF X4 hx hZ hown (host := "") (Or.inl (hw _ (List.mem_of_getElem? (i := 70) rfl))) Via.refl e4 F_threshold_b0 E_b0 (Or.inl (hw _ (List.mem_of_getElem? (i := 71) rfl))) (hw _ (List.mem_of_getElem? (i := 36) rfl)) (ty := .int) (by decide) rfl rfl (g := (mkF m 94 #[.val (.ref b0), .val (.int (16 : Int32)), .val (.float (1061158912 : UInt32))] [(.int (16 : Int32)), (.ref b0)])) rfl rfl (hb hby d8_94)
  have E_b0 := E_b0.wr W5
  have F_loadFactor_b0 := F_loadFactor_b0.other W5 (Or.inr (slot_ne (Or.inr (hw _ (List.mem_of_getElem? (i := 61) rfl))) (Or.inl (hw _ (List.mem_of_getElem? (i := 71) rfl))) (by decide) (t := .float) (t' := .int) (by decide) (by decide)))
  have F_threshold_b0 := F_threshold_b0.same W5
  have F_putMode_b0 := F_putMode_b0.other W5 (Or.inr (slot_ne (Or.inl (hw _ (List.mem_of_getElem? (i := 73) rfl))) (Or.inl (hw _ (List.mem_of_getElem? (i := 71) rfl))) (by decide) (t := .int) (t' := .int) (by decide) (by decide)))
  have F_accessOrder_b0 := F_accessOrder_b0.other W5 (Or.inr (slot_ne (Or.inr (hw _ (List.mem_of_getElem? (i := 75) rfl))) (Or.inl (hw _ (List.mem_of_getElem? (i := 71) rfl))) (by decide) (t := .boolean) (t' := .int) (by decide) (by decide)))
  have Z0 := Nat.le_trans Z0 (Keep.of_wr W5).1
  have K0 := K0.wr W5 (Or.inl (List.mem_of_getElem? (i := 0) rfl))
  have N0 := Fr.snoc X5 N0 g_b0
  refine own_step (B := T5.setTop (mkF m 97 #[.val (.ref b0), .val (.int (16 : Int32)), .val (.float (1061158912 : UInt32))] [])) (fun t k => st5 t k) ?_
  exact own_retV X5 hx hlk Bd.returns (hb hby d8_97) (by decide) (by decide) (by rw [e5]; exact ⟨rfl, N0, K0, F_putMode_b0, F_accessOrder_b0⟩)
theorem d7_0 : decode jdk_94_method_14_code 0 = .ok (.aload_n 0, 1) := by decide +kernel
theorem d7_1 : decode jdk_94_method_14_code 1 = .ok (.iload_n 1, 1) := by decide +kernel
theorem d7_2 : decode jdk_94_method_14_code 2 = .ok (.fload_n 2, 1) := by decide +kernel
theorem d7_3 : decode jdk_94_method_14_code 3 = .ok (.invokespecial 81, 3) := by decide +kernel
theorem d7_6 : decode jdk_94_method_14_code 6 = .ok (.aload_n 0, 1) := by decide +kernel
theorem d7_7 : decode jdk_94_method_14_code 7 = .ok (.iconst 0, 1) := by decide +kernel
theorem d7_8 : decode jdk_94_method_14_code 8 = .ok (.putfield 1, 3) := by decide +kernel
theorem d7_11 : decode jdk_94_method_14_code 11 = .ok (.aload_n 0, 1) := by decide +kernel
theorem d7_12 : decode jdk_94_method_14_code 12 = .ok (.iconst 0, 1) := by decide +kernel
theorem d7_13 : decode jdk_94_method_14_code 13 = .ok (.putfield 64, 3) := by decide +kernel
theorem d7_16 : decode jdk_94_method_14_code 16 = .ok (.return_, 1) := by decide +kernel
theorem pn_java_util_LinkedHashMap : plainName "java/util/LinkedHashMap" = true := by first | (simp [plainName, overriddenIn]; done) | decide +kernel
theorem ef_rm7 (m : MethodId) (x0 : Addr) (x1 : Int32) (x2 : UInt32) : entryFrame m #[(.ref x0), (.int x1), (.float x2)] 3 = mkF m 0 #[.val (.ref x0), .val (.int x1), .val (.float x2)] [] := by first | (simp [entryFrame, mkF, argsToLocals, Value.category]; done) | rfl
def QQ_rm7 (Z : State) (b0 : Addr)  (h0 : Heap) (n0 : Nat) (v : Option Value) (h : Heap) (L : List Loc) : Prop := v = none ∧ Fr n0 L ∧ Keep h0 h [b0]
set_option maxRecDepth 65536 in
set_option maxHeartbeats 40000000 in
theorem rm7 (l : Launch) (Z : State) (a0 : Array Value) (hw : ∀ d ∈ tables_1, d.before a0 Z = true) (ws : List Jvm.Cond) (b0 : Addr)  (h0 : Heap) (n0 : Nat) (Z0 : n0 ≤ h0.size) (E_b0 : Exa Z h0 b0 "java/util/LinkedHashMap") (g_b0 : n0 ≤ b0) (F_loadFactor_b0 : Fld Z h0 b0 "java/util/HashMap" "loadFactor" "F" (.float 0)) (F_threshold_b0 : Fld Z h0 b0 "java/util/HashMap" "threshold" "I" (.int (0 : Int32))) (F_putMode_b0 : Fld Z h0 b0 "java/util/LinkedHashMap" "putMode" "I" (.int (0 : Int32))) (F_accessOrder_b0 : Fld Z h0 b0 "java/util/LinkedHashMap" "accessOrder" "Z" (.int (0 : Int32))) :
    MetFree l (⟨"java/util/LinkedHashMap", "<init>", "(IF)V"⟩ : MethodName) (head1 (Jvm.Cond.code (⟨"java/util/LinkedHashMap", "<init>", "(IF)V"⟩ : MethodName) jdk_94_method_14_code 3 none :: ws) ({ frames := 3, cells := 0, slots := 0, locals := 42 } : Room)) (fun a U => a = #[(.ref b0), (.int (16 : Int32)), (.float (1061158912 : UInt32))] ∧ Z.Warmed39 U.vm ∧ U.heap = h0) (fun _ _ _ _ _ => True) (fun _ U o U' => ∃ v L, o = .returned v ∧ (QQ_rm7 Z b0 h0 n0) v U'.heap L ∧ FrameEnd U o U' L ({ frames := 3, cells := 0, slots := 0, locals := 42 } : Room).cells ({ frames := 3, cells := 0, slots := 0, locals := 42 } : Room).slots) := by
  refine MetFree.of_bodySF (plainFor_of_name pn_java_util_LinkedHashMap) hisR ?_
  intro p e s m args below meth c s₁ Bd hml0 hP hK
  obtain ⟨rfl, hZ, hh⟩ := hP
  have hx := Bd.exec
  have hby := Bd.bytes
  have hlk : meth.locks = false := BodyLoose.notSynchronized Bd
  have hml : c.maxLocals = 3 := hml0
  have hown : s.vm.findClass "java/util/LinkedHashMap" = some m.cls := findClass_of_methodNamed Bd.named
  have hnm := (name_of_methodNamed Bd.named Bd.method).1
  have X0 : Stand p l e ({ frames := 3, cells := 0, slots := 0, locals := 42 } : Room) s m #[(.ref b0), (.int (16 : Int32)), (.float (1061158912 : UInt32))] below meth c s₁ [] 0 0 := Stand.of_body Bd
  have e0 : s₁.heap = h0 := by rw [← hh, Bd.state]; rfl
  have N0 := Fr.nil n0
  show own_G p.tables e below s (QQ_rm7 Z b0 h0 n0) ({ frames := 3, cells := 0, slots := 0, locals := 42 } : Room).cells ({ frames := 3, cells := 0, slots := 0, locals := 42 } : Room).slots (s₁.setTop (entryFrame m #[(.ref b0), (.int (16 : Int32)), (.float (1061158912 : UInt32))] 3))
  refine own_step (B := s₁.setTop (mkF m 0 #[.val (.ref b0), .val (.int (16 : Int32)), .val (.float (1061158912 : UInt32))] [])) (fun t k => castTop (ef_rm7 m b0 (16 : Int32) (1061158912 : UInt32)) k) ?_
  have K0 := Keep.refl h0 [b0]
  refine own_step (B := s₁.setTop (mkF m 1 #[.val (.ref b0), .val (.int (16 : Int32)), .val (.float (1061158912 : UInt32))] [(.ref b0)])) (fun t k => XS.aloadN X0.here hx rfl (hb hby d7_0) rfl rfl k) ?_
  refine own_step (B := s₁.setTop (mkF m 2 #[.val (.ref b0), .val (.int (16 : Int32)), .val (.float (1061158912 : UInt32))] [(.int (16 : Int32)), (.ref b0)])) (fun t k => XS.iloadN X0.here hx rfl (hb hby d7_1) rfl k) ?_
  refine own_step (B := s₁.setTop (mkF m 3 #[.val (.ref b0), .val (.int (16 : Int32)), .val (.float (1061158912 : UInt32))] [(.float (1061158912 : UInt32)), (.int (16 : Int32)), (.ref b0)])) (fun t k => own_fload X0 hx (g := (mkF m 2 #[.val (.ref b0), .val (.int (16 : Int32)), .val (.float (1061158912 : UInt32))] [(.int (16 : Int32)), (.ref b0)])) rfl (v := (1061158912 : UInt32)) (hb hby d7_2) rfl t k) ?_
  obtain ⟨_, _, ⟨T1, L1, k1, n1⟩, -, X1, ⟨Lc1, hQ1, l1, y1, z1⟩, st1⟩ := X0.specialBack hx (y := (⟨"java/util/HashMap", "<init>", "(IF)V"⟩ : MethodName)) rfl hown (mvT hZ (hw _ (List.mem_of_getElem? (i := 42) rfl))) (mvT hZ (hw _ (List.mem_of_getElem? (i := 43) rfl))) (mvT hZ (hw _ (List.mem_of_getElem? (i := 47) rfl))) (by decide) (backOf (W := 0) (rm8 l Z a0 hw [] b0  h0 n0 Z0 E_b0 g_b0 F_loadFactor_b0 F_threshold_b0 F_putMode_b0 F_accessOrder_b0) hZ (hw _ (List.mem_of_getElem? (i := 47) rfl)) (hw _ (List.mem_of_getElem? (i := 46) rfl)) (by decide) (by decide)) (g := (mkF m 3 #[.val (.ref b0), .val (.int (16 : Int32)), .val (.float (1061158912 : UInt32))] [(.float (1061158912 : UInt32)), (.int (16 : Int32)), (.ref b0)])) rfl (by rw [hml]; rfl) (Steps.refl _) (a := b0) (argsL := [(.int (16 : Int32)), (.float (1061158912 : UInt32))]) (rest := []) (lenOf pd_3 rfl) rfl (by show 2 * 0 + _ ≤ _; exact Nat.le_of_eq rfl) (hb hby d7_3) (fun _ _ => ⟨rfl, e0, (by decide : 0 + 0 ≤ _), (by decide : 0 + 0 ≤ _)⟩)
  dsimp only [Pt.U, Pt.locs, Pt.cells, Pt.slots] at X1 l1 y1 z1 st1 hQ1
  subst l1 y1 z1
  obtain ⟨rfl, N1q, K1, G0_1, G1_1⟩ := hQ1
  have N0 := Fr.app N0 N1q
  have E_b0 := E_b0.keep K1
  have Z0 := Nat.le_trans Z0 K1.1
  have K0 := K0.trans K1 (allS (Or.inl (List.mem_of_getElem? (i := 0) rfl)) all0)
  have F_putMode_b0 := G0_1
  have F_accessOrder_b0 := G1_1
  refine own_step (B := T1.setTop (mkF m 6 #[.val (.ref b0), .val (.int (16 : Int32)), .val (.float (1061158912 : UInt32))] [])) (fun t k => st1.trans k) ?_
  refine own_step (B := T1.setTop (mkF m 7 #[.val (.ref b0), .val (.int (16 : Int32)), .val (.float (1061158912 : UInt32))] [(.ref b0)])) (fun t k => XS.aloadN X1.here hx rfl (hb hby d7_6) rfl rfl k) ?_
  refine own_step (B := T1.setTop (mkF m 8 #[.val (.ref b0), .val (.int (16 : Int32)), .val (.float (1061158912 : UInt32))] [(.int (0 : Int32)), (.ref b0)])) (fun t k => XS.iconst X1.here hx rfl (hb hby d7_7) k) ?_
  obtain ⟨T2, h2, X2, e2, W2, st2⟩ := putF X1 hx hZ hown (host := "") (Or.inl (hw _ (List.mem_of_getElem? (i := 72) rfl))) Via.refl rfl F_putMode_b0 E_b0 (Or.inl (hw _ (List.mem_of_getElem? (i := 73) rfl))) (hw _ (List.mem_of_getElem? (i := 36) rfl)) (ty := .int) (by decide) rfl rfl (g := (mkF m 8 #[.val (.ref b0), .val (.int (16 : Int32)), .val (.float (1061158912 : UInt32))] [(.int (0 : Int32)), (.ref b0)])) rfl rfl (hb hby d7_8)
  have E_b0 := E_b0.wr W2
  have F_putMode_b0 := F_putMode_b0.same W2
  have F_accessOrder_b0 := F_accessOrder_b0.other W2 (Or.inr (slot_ne (Or.inr (hw _ (List.mem_of_getElem? (i := 75) rfl))) (Or.inl (hw _ (List.mem_of_getElem? (i := 73) rfl))) (by decide) (t := .boolean) (t' := .int) (by decide) (by decide)))
  have Z0 := Nat.le_trans Z0 (Keep.of_wr W2).1
  have K0 := K0.wr W2 (Or.inl (List.mem_of_getElem? (i := 0) rfl))
  have N0 := Fr.snoc X2 N0 g_b0
  refine own_step (B := T2.setTop (mkF m 11 #[.val (.ref b0), .val (.int (16 : Int32)), .val (.float (1061158912 : UInt32))] [])) (fun t k => st2 t k) ?_
  refine own_step (B := T2.setTop (mkF m 12 #[.val (.ref b0), .val (.int (16 : Int32)), .val (.float (1061158912 : UInt32))] [(.ref b0)])) (fun t k => XS.aloadN X2.here hx rfl (hb hby d7_11) rfl rfl k) ?_
  refine own_step (B := T2.setTop (mkF m 13 #[.val (.ref b0), .val (.int (16 : Int32)), .val (.float (1061158912 : UInt32))] [(.int (0 : Int32)), (.ref b0)])) (fun t k => XS.iconst X2.here hx rfl (hb hby d7_12) k) ?_
  obtain ⟨T3, h3, X3, e3, W3, st3⟩ := putFN X2 hx hZ hown (hw _ (List.mem_of_getElem? (i := 74) rfl)) Via.refl e2 F_accessOrder_b0 E_b0 (Or.inr ⟨(hw _ (List.mem_of_getElem? (i := 75) rfl)), rfl, hnm⟩) (hw _ (List.mem_of_getElem? (i := 36) rfl)) (ty := .boolean) (v' := (.int (0 : Int32))) (by decide) rfl rfl (g := (mkF m 13 #[.val (.ref b0), .val (.int (16 : Int32)), .val (.float (1061158912 : UInt32))] [(.int (0 : Int32)), (.ref b0)])) rfl rfl (hb hby d7_13)
  have E_b0 := E_b0.wr W3
  have F_putMode_b0 := F_putMode_b0.other W3 (Or.inr (slot_ne (Or.inl (hw _ (List.mem_of_getElem? (i := 73) rfl))) (Or.inr (hw _ (List.mem_of_getElem? (i := 75) rfl))) (by decide) (t := .int) (t' := .boolean) (by decide) (by decide)))
  have F_accessOrder_b0 := F_accessOrder_b0.same W3
  have Z0 := Nat.le_trans Z0 (Keep.of_wr W3).1
  have K0 := K0.wr W3 (Or.inl (List.mem_of_getElem? (i := 0) rfl))
  have N0 := Fr.snoc X3 N0 g_b0
  refine own_step (B := T3.setTop (mkF m 16 #[.val (.ref b0), .val (.int (16 : Int32)), .val (.float (1061158912 : UInt32))] [])) (fun t k => st3 t k) ?_
  exact own_retV X3 hx hlk Bd.returns (hb hby d7_16) (by decide) (by decide) (by rw [e3]; exact ⟨rfl, N0, K0⟩)
theorem d4_0 : decode jdk_93_method_5_code 0 = .ok (.aload_n 0, 1) := by decide +kernel
theorem d4_1 : decode jdk_93_method_5_code 1 = .ok (.invokespecial 1, 3) := by decide +kernel
theorem d4_4 : decode jdk_93_method_5_code 4 = .ok (.aload_n 0, 1) := by decide +kernel
theorem d4_5 : decode jdk_93_method_5_code 5 = .ok (.new 42, 3) := by decide +kernel
theorem d4_8 : decode jdk_93_method_5_code 8 = .ok (.dup, 1) := by decide +kernel
theorem d4_9 : decode jdk_93_method_5_code 9 = .ok (.iload_n 1, 1) := by decide +kernel
theorem d4_10 : decode jdk_93_method_5_code 10 = .ok (.fload_n 2, 1) := by decide +kernel
theorem d4_11 : decode jdk_93_method_5_code 11 = .ok (.invokespecial 44, 3) := by decide +kernel
theorem d4_14 : decode jdk_93_method_5_code 14 = .ok (.putfield 10, 3) := by decide +kernel
theorem d4_17 : decode jdk_93_method_5_code 17 = .ok (.return_, 1) := by decide +kernel
theorem pn_java_util_HashSet : plainName "java/util/HashSet" = true := by first | (simp [plainName, overriddenIn]; done) | decide +kernel
theorem ef_rm4 (m : MethodId) (x0 : Addr) (x1 : Int32) (x2 : UInt32) (x3 : Int32) : entryFrame m #[(.ref x0), (.int x1), (.float x2), (.int x3)] 4 = mkF m 0 #[.val (.ref x0), .val (.int x1), .val (.float x2), .val (.int x3)] [] := by first | (simp [entryFrame, mkF, argsToLocals, Value.category]; done) | rfl
def QQ_rm4 (Z : State) (b0 : Addr)  (h0 : Heap) (n0 : Nat) (v : Option Value) (h : Heap) (L : List Loc) : Prop := v = none ∧ Fr n0 L ∧ Keep h0 h [b0]
set_option maxRecDepth 65536 in
set_option maxHeartbeats 40000000 in
theorem rm4 (l : Launch) (Z : State) (a0 : Array Value) (hw : ∀ d ∈ tables_1, d.before a0 Z = true) (ws : List Jvm.Cond) (b0 : Addr)  (h0 : Heap) (n0 : Nat) (Z0 : n0 ≤ h0.size) (E_b0 : Exa Z h0 b0 "java/util/LinkedHashSet") (g_b0 : n0 ≤ b0) (F_map_b0 : Fld Z h0 b0 "java/util/HashSet" "map" "Ljava/util/HashMap;" .null) :
    MetFree l (⟨"java/util/HashSet", "<init>", "(IFZ)V"⟩ : MethodName) (head1 (Jvm.Cond.code (⟨"java/util/HashSet", "<init>", "(IFZ)V"⟩ : MethodName) jdk_93_method_5_code 4 none :: ws) ({ frames := 4, cells := 1, slots := 12, locals := 58 } : Room)) (fun a U => a = #[(.ref b0), (.int (16 : Int32)), (.float (1061158912 : UInt32)), (.int (1 : Int32))] ∧ Z.Warmed39 U.vm ∧ U.heap = h0) (fun _ _ _ _ _ => True) (fun _ U o U' => ∃ v L, o = .returned v ∧ (QQ_rm4 Z b0 h0 n0) v U'.heap L ∧ FrameEnd U o U' L ({ frames := 4, cells := 1, slots := 12, locals := 58 } : Room).cells ({ frames := 4, cells := 1, slots := 12, locals := 58 } : Room).slots) := by
  refine MetFree.of_bodySF (plainFor_of_name pn_java_util_HashSet) hisR ?_
  intro p e s m args below meth c s₁ Bd hml0 hP hK
  obtain ⟨rfl, hZ, hh⟩ := hP
  have hx := Bd.exec
  have hby := Bd.bytes
  have hlk : meth.locks = false := BodyLoose.notSynchronized Bd
  have hml : c.maxLocals = 4 := hml0
  have hown : s.vm.findClass "java/util/HashSet" = some m.cls := findClass_of_methodNamed Bd.named
  have hnm := (name_of_methodNamed Bd.named Bd.method).1
  have X0 : Stand p l e ({ frames := 4, cells := 1, slots := 12, locals := 58 } : Room) s m #[(.ref b0), (.int (16 : Int32)), (.float (1061158912 : UInt32)), (.int (1 : Int32))] below meth c s₁ [] 0 0 := Stand.of_body Bd
  have e0 : s₁.heap = h0 := by rw [← hh, Bd.state]; rfl
  have N0 := Fr.nil n0
  show own_G p.tables e below s (QQ_rm4 Z b0 h0 n0) ({ frames := 4, cells := 1, slots := 12, locals := 58 } : Room).cells ({ frames := 4, cells := 1, slots := 12, locals := 58 } : Room).slots (s₁.setTop (entryFrame m #[(.ref b0), (.int (16 : Int32)), (.float (1061158912 : UInt32)), (.int (1 : Int32))] 4))
  refine own_step (B := s₁.setTop (mkF m 0 #[.val (.ref b0), .val (.int (16 : Int32)), .val (.float (1061158912 : UInt32)), .val (.int (1 : Int32))] [])) (fun t k => castTop (ef_rm4 m b0 (16 : Int32) (1061158912 : UInt32) (1 : Int32)) k) ?_
  have K0 := Keep.refl h0 [b0]
  refine own_step (B := s₁.setTop (mkF m 1 #[.val (.ref b0), .val (.int (16 : Int32)), .val (.float (1061158912 : UInt32)), .val (.int (1 : Int32))] [(.ref b0)])) (fun t k => XS.aloadN X0.here hx rfl (hb hby d4_0) rfl rfl k) ?_
  obtain ⟨_, _, ⟨T1, L1, k1, n1⟩, -, X1, ⟨Lc1, hQ1, l1, y1, z1⟩, st1⟩ := X0.specialBack hx (y := (⟨"java/util/AbstractSet", "<init>", "()V"⟩ : MethodName)) rfl hown (mvT hZ (hw _ (List.mem_of_getElem? (i := 22) rfl))) (mvT hZ (hw _ (List.mem_of_getElem? (i := 23) rfl))) (mvT hZ (hw _ (List.mem_of_getElem? (i := 27) rfl))) (by decide) (backOf (W := 0) (rm5 l Z a0 hw [] b0  h0 n0 Z0 ) hZ (hw _ (List.mem_of_getElem? (i := 27) rfl)) (hw _ (List.mem_of_getElem? (i := 26) rfl)) (by decide) (by decide)) (g := (mkF m 1 #[.val (.ref b0), .val (.int (16 : Int32)), .val (.float (1061158912 : UInt32)), .val (.int (1 : Int32))] [(.ref b0)])) rfl (by rw [hml]; rfl) (Steps.refl _) (a := b0) (argsL := []) (rest := []) (lenOf pd_0 rfl) rfl (by show 2 * 0 + _ ≤ _; exact Nat.le_of_eq rfl) (hb hby d4_1) (fun _ _ => ⟨rfl, e0, (by decide : 0 + 0 ≤ _), (by decide : 0 + 0 ≤ _)⟩)
  dsimp only [Pt.U, Pt.locs, Pt.cells, Pt.slots] at X1 l1 y1 z1 st1 hQ1
  subst l1 y1 z1
  obtain ⟨rfl, N1q, e1⟩ := hQ1
  have N0 := Fr.app N0 N1q
  refine own_step (B := T1.setTop (mkF m 4 #[.val (.ref b0), .val (.int (16 : Int32)), .val (.float (1061158912 : UInt32)), .val (.int (1 : Int32))] [])) (fun t k => st1.trans k) ?_
  refine own_step (B := T1.setTop (mkF m 5 #[.val (.ref b0), .val (.int (16 : Int32)), .val (.float (1061158912 : UInt32)), .val (.int (1 : Int32))] [(.ref b0)])) (fun t k => XS.aloadN X1.here hx rfl (hb hby d4_4) rfl rfl k) ?_
  obtain ⟨T2, h2, X2, e2, E2, A2, D2, -, st2⟩ := newO X1 hx hZ hown (hw _ (List.mem_of_getElem? (i := 35) rfl)) (hw _ (List.mem_of_getElem? (i := 36) rfl)) (hw _ (List.mem_of_getElem? (i := 37) rfl)) e1 (g := (mkF m 5 #[.val (.ref b0), .val (.int (16 : Int32)), .val (.float (1061158912 : UInt32)), .val (.int (1 : Int32))] [(.ref b0)])) rfl (hb hby d4_5) (by decide) (by decide)
  obtain ⟨b2, g2⟩ : ∃ z, z = h0.size := ⟨_, rfl⟩
  rw [← g2] at A2 D2 st2
  have g_b2 : n0 ≤ b2 := Nat.le_trans Z0 (Nat.le_of_eq g2.symm)
  have sz_b2 : h0.size ≤ b2 := Nat.le_trans K0.1 (Nat.le_of_eq g2.symm)
  have ne_b0_b2 : b0 ≠ b2 := Nat.ne_of_lt (Nat.lt_of_lt_of_le E_b0.lt (Nat.le_of_eq g2.symm))
  have E_b0 := E_b0.ext E2
  have F_map_b0 := F_map_b0.ext E2
  have Z0 := Nat.le_trans Z0 E2.1
  have K0 := K0.ext E2
  have E_b2 := A2
  have F_loadFactor_b2 : Fld Z h2 b2 "java/util/HashMap" "loadFactor" "F" (.float 0) := D2 (Or.inr (hw _ (List.mem_of_getElem? (i := 61) rfl))) (ty := .float) (by decide)
  have F_threshold_b2 : Fld Z h2 b2 "java/util/HashMap" "threshold" "I" (.int (0 : Int32)) := D2 (Or.inl (hw _ (List.mem_of_getElem? (i := 71) rfl))) (ty := .int) (by decide)
  have F_putMode_b2 : Fld Z h2 b2 "java/util/LinkedHashMap" "putMode" "I" (.int (0 : Int32)) := D2 (Or.inl (hw _ (List.mem_of_getElem? (i := 73) rfl))) (ty := .int) (by decide)
  have F_accessOrder_b2 : Fld Z h2 b2 "java/util/LinkedHashMap" "accessOrder" "Z" (.int (0 : Int32)) := D2 (Or.inr (hw _ (List.mem_of_getElem? (i := 75) rfl))) (ty := .boolean) (by decide)
  refine own_step (B := T2.setTop (mkF m 8 #[.val (.ref b0), .val (.int (16 : Int32)), .val (.float (1061158912 : UInt32)), .val (.int (1 : Int32))] [(.ref b2), (.ref b0)])) (fun t k => st2 t k) ?_
  refine own_step (B := T2.setTop (mkF m 9 #[.val (.ref b0), .val (.int (16 : Int32)), .val (.float (1061158912 : UInt32)), .val (.int (1 : Int32))] [(.ref b2), (.ref b2), (.ref b0)])) (fun t k => XS.dup X2.here hx rfl (hb hby d4_8) rfl rfl k) ?_
  refine own_step (B := T2.setTop (mkF m 10 #[.val (.ref b0), .val (.int (16 : Int32)), .val (.float (1061158912 : UInt32)), .val (.int (1 : Int32))] [(.int (16 : Int32)), (.ref b2), (.ref b2), (.ref b0)])) (fun t k => XS.iloadN X2.here hx rfl (hb hby d4_9) rfl k) ?_
  refine own_step (B := T2.setTop (mkF m 11 #[.val (.ref b0), .val (.int (16 : Int32)), .val (.float (1061158912 : UInt32)), .val (.int (1 : Int32))] [(.float (1061158912 : UInt32)), (.int (16 : Int32)), (.ref b2), (.ref b2), (.ref b0)])) (fun t k => own_fload X2 hx (g := (mkF m 10 #[.val (.ref b0), .val (.int (16 : Int32)), .val (.float (1061158912 : UInt32)), .val (.int (1 : Int32))] [(.int (16 : Int32)), (.ref b2), (.ref b2), (.ref b0)])) rfl (v := (1061158912 : UInt32)) (hb hby d4_10) rfl t k) ?_
  obtain ⟨_, _, ⟨T3, L3, k3, n3⟩, -, X3, ⟨Lc3, hQ3, l3, y3, z3⟩, st3⟩ := X2.specialBack hx (y := (⟨"java/util/LinkedHashMap", "<init>", "(IF)V"⟩ : MethodName)) rfl hown (mvT hZ (hw _ (List.mem_of_getElem? (i := 38) rfl))) (mvT hZ (hw _ (List.mem_of_getElem? (i := 39) rfl))) (mvT hZ (hw _ (List.mem_of_getElem? (i := 41) rfl))) (by decide) (backOf (W := 2) (rm7 l Z a0 hw [] b2  h2 n0 Z0 E_b2 g_b2 F_loadFactor_b2 F_threshold_b2 F_putMode_b2 F_accessOrder_b2) hZ (hw _ (List.mem_of_getElem? (i := 41) rfl)) (hw _ (List.mem_of_getElem? (i := 37) rfl)) (by decide) (by decide)) (g := (mkF m 11 #[.val (.ref b0), .val (.int (16 : Int32)), .val (.float (1061158912 : UInt32)), .val (.int (1 : Int32))] [(.float (1061158912 : UInt32)), (.int (16 : Int32)), (.ref b2), (.ref b2), (.ref b0)])) rfl (by rw [hml]; rfl) (Steps.refl _) (a := b2) (argsL := [(.int (16 : Int32)), (.float (1061158912 : UInt32))]) (rest := [(.ref b2), (.ref b0)]) (lenOf pd_3 rfl) rfl (by show 2 * 0 + _ ≤ _; exact Nat.le_of_eq rfl) (hb hby d4_11) (fun _ _ => ⟨rfl, e2, (by decide : 1 + 0 ≤ _), (by decide : 12 + 0 ≤ _)⟩)
  dsimp only [Pt.U, Pt.locs, Pt.cells, Pt.slots] at X3 l3 y3 z3 st3 hQ3
  subst l3 y3 z3
  obtain ⟨rfl, N3q, K3⟩ := hQ3
  have N0 := Fr.app N0 N3q
  have E_b0 := E_b0.keep K3
  have F_map_b0 := F_map_b0.keep K3 (ninS ne_b0_b2 nin0)
  have E_b2 := E_b2.keep K3
  have Z0 := Nat.le_trans Z0 K3.1
  have K0 := K0.trans K3 (allS (Or.inr sz_b2) all0)
  refine own_step (B := T3.setTop (mkF m 14 #[.val (.ref b0), .val (.int (16 : Int32)), .val (.float (1061158912 : UInt32)), .val (.int (1 : Int32))] [(.ref b2), (.ref b0)])) (fun t k => st3.trans k) ?_
  obtain ⟨T4, h4, X4, e4, W4, st4⟩ := putF X3 hx hZ hown (host := "") (Or.inl (hw _ (List.mem_of_getElem? (i := 76) rfl))) Via.refl rfl F_map_b0 E_b0 (Or.inl (hw _ (List.mem_of_getElem? (i := 77) rfl))) (hw _ (List.mem_of_getElem? (i := 10) rfl)) (ty := (.object "java/util/HashMap")) (by decide) rfl rfl (g := (mkF m 14 #[.val (.ref b0), .val (.int (16 : Int32)), .val (.float (1061158912 : UInt32)), .val (.int (1 : Int32))] [(.ref b2), (.ref b0)])) rfl rfl (hb hby d4_14)
  have E_b0 := E_b0.wr W4
  have F_map_b0 := F_map_b0.same W4
  have E_b2 := E_b2.wr W4
  have Z0 := Nat.le_trans Z0 (Keep.of_wr W4).1
  have K0 := K0.wr W4 (Or.inl (List.mem_of_getElem? (i := 0) rfl))
  have N0 := Fr.snoc X4 N0 g_b0
  refine own_step (B := T4.setTop (mkF m 17 #[.val (.ref b0), .val (.int (16 : Int32)), .val (.float (1061158912 : UInt32)), .val (.int (1 : Int32))] [])) (fun t k => st4 t k) ?_
  exact own_retV X4 hx hlk Bd.returns (hb hby d4_17) (by decide) (by decide) (by rw [e4]; exact ⟨rfl, N0, K0⟩)
theorem d3_0 : decode jdk_2620_method_3_code 0 = .ok (.aload_n 0, 1) := by decide +kernel
theorem d3_1 : decode jdk_2620_method_3_code 1 = .ok (.bipush 16, 2) := by decide +kernel
theorem d3_3 : decode jdk_2620_method_3_code 3 = .ok (.ldc 7, 2) := by decide +kernel
theorem d3_5 : decode jdk_2620_method_3_code 5 = .ok (.iconst 1, 1) := by decide +kernel
theorem d3_6 : decode jdk_2620_method_3_code 6 = .ok (.invokespecial 1, 3) := by decide +kernel
theorem d3_9 : decode jdk_2620_method_3_code 9 = .ok (.return_, 1) := by decide +kernel
theorem pn_java_util_LinkedHashSet : plainName "java/util/LinkedHashSet" = true := by first | (simp [plainName, overriddenIn]; done) | decide +kernel
theorem ef_rm3 (m : MethodId) (x0 : Addr) : entryFrame m #[(.ref x0)] 1 = mkF m 0 #[.val (.ref x0)] [] := by first | (simp [entryFrame, mkF, argsToLocals, Value.category]; done) | rfl
def QQ_rm3 (Z : State) (b0 : Addr)  (h0 : Heap) (n0 : Nat) (v : Option Value) (h : Heap) (L : List Loc) : Prop := v = none ∧ Fr n0 L ∧ Keep h0 h [b0]
set_option maxRecDepth 65536 in
set_option maxHeartbeats 40000000 in
theorem rm3 (l : Launch) (Z : State) (a0 : Array Value) (hw : ∀ d ∈ tables_1, d.before a0 Z = true) (ws : List Jvm.Cond) (b0 : Addr)  (h0 : Heap) (n0 : Nat) (Z0 : n0 ≤ h0.size) (E_b0 : Exa Z h0 b0 "java/util/LinkedHashSet") (g_b0 : n0 ≤ b0) (F_map_b0 : Fld Z h0 b0 "java/util/HashSet" "map" "Ljava/util/HashMap;" .null) :
    MetFree l (⟨"java/util/LinkedHashSet", "<init>", "()V"⟩ : MethodName) (head1 (Jvm.Cond.code (⟨"java/util/LinkedHashSet", "<init>", "()V"⟩ : MethodName) jdk_2620_method_3_code 1 none :: ws) ({ frames := 5, cells := 1, slots := 12, locals := 73 } : Room)) (fun a U => a = #[(.ref b0)] ∧ Z.Warmed39 U.vm ∧ U.heap = h0) (fun _ _ _ _ _ => True) (fun _ U o U' => ∃ v L, o = .returned v ∧ (QQ_rm3 Z b0 h0 n0) v U'.heap L ∧ FrameEnd U o U' L ({ frames := 5, cells := 1, slots := 12, locals := 73 } : Room).cells ({ frames := 5, cells := 1, slots := 12, locals := 73 } : Room).slots) := by
  refine MetFree.of_bodySF (plainFor_of_name pn_java_util_LinkedHashSet) hisR ?_
  intro p e s m args below meth c s₁ Bd hml0 hP hK
  obtain ⟨rfl, hZ, hh⟩ := hP
  have hx := Bd.exec
  have hby := Bd.bytes
  have hlk : meth.locks = false := BodyLoose.notSynchronized Bd
  have hml : c.maxLocals = 1 := hml0
  have hown : s.vm.findClass "java/util/LinkedHashSet" = some m.cls := findClass_of_methodNamed Bd.named
  have hnm := (name_of_methodNamed Bd.named Bd.method).1
  have X0 : Stand p l e ({ frames := 5, cells := 1, slots := 12, locals := 73 } : Room) s m #[(.ref b0)] below meth c s₁ [] 0 0 := Stand.of_body Bd
  have e0 : s₁.heap = h0 := by rw [← hh, Bd.state]; rfl
  have N0 := Fr.nil n0
  show own_G p.tables e below s (QQ_rm3 Z b0 h0 n0) ({ frames := 5, cells := 1, slots := 12, locals := 73 } : Room).cells ({ frames := 5, cells := 1, slots := 12, locals := 73 } : Room).slots (s₁.setTop (entryFrame m #[(.ref b0)] 1))
  refine own_step (B := s₁.setTop (mkF m 0 #[.val (.ref b0)] [])) (fun t k => castTop (ef_rm3 m b0) k) ?_
  have K0 := Keep.refl h0 [b0]
  refine own_step (B := s₁.setTop (mkF m 1 #[.val (.ref b0)] [(.ref b0)])) (fun t k => XS.aloadN X0.here hx rfl (hb hby d3_0) rfl rfl k) ?_
  refine own_step (B := s₁.setTop (mkF m 3 #[.val (.ref b0)] [(.int (16 : Int32)), (.ref b0)])) (fun t k => XS.bipush X0.here hx rfl (hb hby d3_1) k) ?_
  refine own_step (B := s₁.setTop (mkF m 5 #[.val (.ref b0)] [(.float (1061158912 : UInt32)), (.int (16 : Int32)), (.ref b0)])) (fun t k => X0.ldcFloatC hx hown (mvT hZ (hw _ (List.mem_of_getElem? (i := 15) rfl))) (g := (mkF m 3 #[.val (.ref b0)] [(.int (16 : Int32)), (.ref b0)])) rfl (hb hby d3_3) t k) ?_
  refine own_step (B := s₁.setTop (mkF m 6 #[.val (.ref b0)] [(.int (1 : Int32)), (.float (1061158912 : UInt32)), (.int (16 : Int32)), (.ref b0)])) (fun t k => XS.iconst X0.here hx rfl (hb hby d3_5) k) ?_
  obtain ⟨_, _, ⟨T1, L1, k1, n1⟩, -, X1, ⟨Lc1, hQ1, l1, y1, z1⟩, st1⟩ := X0.specialBack hx (y := (⟨"java/util/HashSet", "<init>", "(IFZ)V"⟩ : MethodName)) rfl hown (mvT hZ (hw _ (List.mem_of_getElem? (i := 16) rfl))) (mvT hZ (hw _ (List.mem_of_getElem? (i := 17) rfl))) (mvT hZ (hw _ (List.mem_of_getElem? (i := 21) rfl))) (by decide) (backOf (W := 0) (rm4 l Z a0 hw [] b0  h0 n0 Z0 E_b0 g_b0 F_map_b0) hZ (hw _ (List.mem_of_getElem? (i := 21) rfl)) (hw _ (List.mem_of_getElem? (i := 20) rfl)) (by decide) (by decide)) (g := (mkF m 6 #[.val (.ref b0)] [(.int (1 : Int32)), (.float (1061158912 : UInt32)), (.int (16 : Int32)), (.ref b0)])) rfl (by rw [hml]; rfl) (Steps.refl _) (a := b0) (argsL := [(.int (16 : Int32)), (.float (1061158912 : UInt32)), (.int (1 : Int32))]) (rest := []) (lenOf pd_4 rfl) rfl (by show 2 * 0 + _ ≤ _; exact Nat.le_of_eq rfl) (hb hby d3_6) (fun _ _ => ⟨rfl, e0, (by decide : 0 + 1 ≤ _), (by decide : 0 + 12 ≤ _)⟩)
  dsimp only [Pt.U, Pt.locs, Pt.cells, Pt.slots] at X1 l1 y1 z1 st1 hQ1
  subst l1 y1 z1
  obtain ⟨rfl, N1q, K1⟩ := hQ1
  have N0 := Fr.app N0 N1q
  have E_b0 := E_b0.keep K1
  have Z0 := Nat.le_trans Z0 K1.1
  have K0 := K0.trans K1 (allS (Or.inl (List.mem_of_getElem? (i := 0) rfl)) all0)
  refine own_step (B := T1.setTop (mkF m 9 #[.val (.ref b0)] [])) (fun t k => st1.trans k) ?_
  exact own_retV X1 hx hlk Bd.returns (hb hby d3_9) (by decide) (by decide) (by exact ⟨rfl, N0, K0⟩)
theorem d14_0 : decode jdk_69_method_7_code 0 = .ok (.aload_n 0, 1) := by decide +kernel
theorem d14_1 : decode jdk_69_method_7_code 1 = .ok (.invokespecial 43, 3) := by decide +kernel
theorem d14_4 : decode jdk_69_method_7_code 4 = .ok (.aload_n 0, 1) := by decide +kernel
theorem d14_5 : decode jdk_69_method_7_code 5 = .ok (.ldc 92, 2) := by decide +kernel
theorem d14_7 : decode jdk_69_method_7_code 7 = .ok (.putfield 81, 3) := by decide +kernel
theorem d14_10 : decode jdk_69_method_7_code 10 = .ok (.return_, 1) := by decide +kernel
theorem ef_rm14 (m : MethodId) (x0 : Addr) : entryFrame m #[(.ref x0)] 1 = mkF m 0 #[.val (.ref x0)] [] := by first | (simp [entryFrame, mkF, argsToLocals, Value.category]; done) | rfl
def QQ_rm14 (Z : State) (b0 : Addr)  (h0 : Heap) (n0 : Nat) (v : Option Value) (h : Heap) (L : List Loc) : Prop := v = none ∧ Fr n0 L ∧ Keep h0 h [b0]
set_option maxRecDepth 65536 in
set_option maxHeartbeats 40000000 in
theorem rm14 (l : Launch) (Z : State) (a0 : Array Value) (hw : ∀ d ∈ tables_1, d.before a0 Z = true) (ws : List Jvm.Cond) (b0 : Addr)  (h0 : Heap) (n0 : Nat) (Z0 : n0 ≤ h0.size) (E_b0 : Exa Z h0 b0 "java/util/HashMap") (g_b0 : n0 ≤ b0) (F_loadFactor_b0 : Fld Z h0 b0 "java/util/HashMap" "loadFactor" "F" (.float 0)) :
    MetFree l (⟨"java/util/HashMap", "<init>", "()V"⟩ : MethodName) (head1 (Jvm.Cond.code (⟨"java/util/HashMap", "<init>", "()V"⟩ : MethodName) jdk_69_method_7_code 1 none :: ws) ({ frames := 2, cells := 0, slots := 0, locals := 24 } : Room)) (fun a U => a = #[(.ref b0)] ∧ Z.Warmed39 U.vm ∧ U.heap = h0) (fun _ _ _ _ _ => True) (fun _ U o U' => ∃ v L, o = .returned v ∧ (QQ_rm14 Z b0 h0 n0) v U'.heap L ∧ FrameEnd U o U' L ({ frames := 2, cells := 0, slots := 0, locals := 24 } : Room).cells ({ frames := 2, cells := 0, slots := 0, locals := 24 } : Room).slots) := by
  refine MetFree.of_bodySF (plainFor_of_name pn_java_util_HashMap) hisR ?_
  intro p e s m args below meth c s₁ Bd hml0 hP hK
  obtain ⟨rfl, hZ, hh⟩ := hP
  have hx := Bd.exec
  have hby := Bd.bytes
  have hlk : meth.locks = false := BodyLoose.notSynchronized Bd
  have hml : c.maxLocals = 1 := hml0
  have hown : s.vm.findClass "java/util/HashMap" = some m.cls := findClass_of_methodNamed Bd.named
  have hnm := (name_of_methodNamed Bd.named Bd.method).1
  have X0 : Stand p l e ({ frames := 2, cells := 0, slots := 0, locals := 24 } : Room) s m #[(.ref b0)] below meth c s₁ [] 0 0 := Stand.of_body Bd
  have e0 : s₁.heap = h0 := by rw [← hh, Bd.state]; rfl
  have N0 := Fr.nil n0
  show own_G p.tables e below s (QQ_rm14 Z b0 h0 n0) ({ frames := 2, cells := 0, slots := 0, locals := 24 } : Room).cells ({ frames := 2, cells := 0, slots := 0, locals := 24 } : Room).slots (s₁.setTop (entryFrame m #[(.ref b0)] 1))
  refine own_step (B := s₁.setTop (mkF m 0 #[.val (.ref b0)] [])) (fun t k => castTop (ef_rm14 m b0) k) ?_
  have K0 := Keep.refl h0 [b0]
  refine own_step (B := s₁.setTop (mkF m 1 #[.val (.ref b0)] [(.ref b0)])) (fun t k => XS.aloadN X0.here hx rfl (hb hby d14_0) rfl rfl k) ?_
  obtain ⟨_, _, ⟨T1, L1, k1, n1⟩, -, X1, ⟨Lc1, hQ1, l1, y1, z1⟩, st1⟩ := X0.specialBack hx (y := (⟨"java/util/AbstractMap", "<init>", "()V"⟩ : MethodName)) rfl hown (mvT hZ (hw _ (List.mem_of_getElem? (i := 48) rfl))) (mvT hZ (hw _ (List.mem_of_getElem? (i := 49) rfl))) (mvT hZ (hw _ (List.mem_of_getElem? (i := 53) rfl))) (by decide) (backOf (W := 0) (rm9 l Z a0 hw [] b0  h0 n0 Z0 ) hZ (hw _ (List.mem_of_getElem? (i := 53) rfl)) (hw _ (List.mem_of_getElem? (i := 52) rfl)) (by decide) (by decide)) (g := (mkF m 1 #[.val (.ref b0)] [(.ref b0)])) rfl (by rw [hml]; rfl) (Steps.refl _) (a := b0) (argsL := []) (rest := []) (lenOf pd_0 rfl) rfl (by show 2 * 0 + _ ≤ _; exact Nat.le_of_eq rfl) (hb hby d14_1) (fun _ _ => ⟨rfl, e0, (by decide : 0 + 0 ≤ _), (by decide : 0 + 0 ≤ _)⟩)
  dsimp only [Pt.U, Pt.locs, Pt.cells, Pt.slots] at X1 l1 y1 z1 st1 hQ1
  subst l1 y1 z1
  obtain ⟨rfl, N1q, e1⟩ := hQ1
  have N0 := Fr.app N0 N1q
  refine own_step (B := T1.setTop (mkF m 4 #[.val (.ref b0)] [])) (fun t k => st1.trans k) ?_
  refine own_step (B := T1.setTop (mkF m 5 #[.val (.ref b0)] [(.ref b0)])) (fun t k => XS.aloadN X1.here hx rfl (hb hby d14_4) rfl rfl k) ?_
  refine own_step (B := T1.setTop (mkF m 7 #[.val (.ref b0)] [(.float (1061158912 : UInt32)), (.ref b0)])) (fun t k => X1.ldcFloatC hx hown (mvT hZ (hw _ (List.mem_of_getElem? (i := 94) rfl))) (g := (mkF m 5 #[.val (.ref b0)] [(.ref b0)])) rfl (hb hby d14_5) t k) ?_
  obtain ⟨T2, h2, X2, e2, W2, st2⟩ := putF X1 hx hZ hown (host := "") (Or.inl (hw _ (List.mem_of_getElem? (i := 60) rfl))) Via.refl e1 F_loadFactor_b0 E_b0 (Or.inr ⟨(hw _ (List.mem_of_getElem? (i := 95) rfl)), rfl, hnm⟩) (hw _ (List.mem_of_getElem? (i := 88) rfl)) (ty := .float) (by decide) rfl rfl (g := (mkF m 7 #[.val (.ref b0)] [(.float (1061158912 : UInt32)), (.ref b0)])) rfl rfl (hb hby d14_7)
  have E_b0 := E_b0.wr W2
  have F_loadFactor_b0 := F_loadFactor_b0.same W2
  have Z0 := Nat.le_trans Z0 (Keep.of_wr W2).1
  have K0 := K0.wr W2 (Or.inl (List.mem_of_getElem? (i := 0) rfl))
  have N0 := Fr.snoc X2 N0 g_b0
  refine own_step (B := T2.setTop (mkF m 10 #[.val (.ref b0)] [])) (fun t k => st2 t k) ?_
  exact own_retV X2 hx hlk Bd.returns (hb hby d14_10) (by decide) (by decide) (by rw [e2]; exact ⟨rfl, N0, K0⟩)
theorem d13_0 : decode jdk_93_method_1_code 0 = .ok (.aload_n 0, 1) := by decide +kernel
theorem d13_1 : decode jdk_93_method_1_code 1 = .ok (.invokespecial 1, 3) := by decide +kernel
theorem d13_4 : decode jdk_93_method_1_code 4 = .ok (.aload_n 0, 1) := by decide +kernel
theorem d13_5 : decode jdk_93_method_1_code 5 = .ok (.new 7, 3) := by decide +kernel
theorem d13_8 : decode jdk_93_method_1_code 8 = .ok (.dup, 1) := by decide +kernel
theorem d13_9 : decode jdk_93_method_1_code 9 = .ok (.invokespecial 9, 3) := by decide +kernel
theorem d13_12 : decode jdk_93_method_1_code 12 = .ok (.putfield 10, 3) := by decide +kernel
theorem d13_15 : decode jdk_93_method_1_code 15 = .ok (.return_, 1) := by decide +kernel
theorem ef_rm13 (m : MethodId) (x0 : Addr) : entryFrame m #[(.ref x0)] 1 = mkF m 0 #[.val (.ref x0)] [] := by first | (simp [entryFrame, mkF, argsToLocals, Value.category]; done) | rfl
def QQ_rm13 (Z : State) (b0 : Addr)  (h0 : Heap) (n0 : Nat) (v : Option Value) (h : Heap) (L : List Loc) : Prop := v = none ∧ Fr n0 L ∧ Keep h0 h [b0]
set_option maxRecDepth 65536 in
set_option maxHeartbeats 40000000 in
theorem rm13 (l : Launch) (Z : State) (a0 : Array Value) (hw : ∀ d ∈ tables_1, d.before a0 Z = true) (ws : List Jvm.Cond) (b0 : Addr)  (h0 : Heap) (n0 : Nat) (Z0 : n0 ≤ h0.size) (E_b0 : Exa Z h0 b0 "java/util/HashSet") (g_b0 : n0 ≤ b0) (F_map_b0 : Fld Z h0 b0 "java/util/HashSet" "map" "Ljava/util/HashMap;" .null) :
    MetFree l (⟨"java/util/HashSet", "<init>", "()V"⟩ : MethodName) (head1 (Jvm.Cond.code (⟨"java/util/HashSet", "<init>", "()V"⟩ : MethodName) jdk_93_method_1_code 1 none :: ws) ({ frames := 3, cells := 1, slots := 8, locals := 38 } : Room)) (fun a U => a = #[(.ref b0)] ∧ Z.Warmed39 U.vm ∧ U.heap = h0) (fun _ _ _ _ _ => True) (fun _ U o U' => ∃ v L, o = .returned v ∧ (QQ_rm13 Z b0 h0 n0) v U'.heap L ∧ FrameEnd U o U' L ({ frames := 3, cells := 1, slots := 8, locals := 38 } : Room).cells ({ frames := 3, cells := 1, slots := 8, locals := 38 } : Room).slots) := by
  refine MetFree.of_bodySF (plainFor_of_name pn_java_util_HashSet) hisR ?_
  intro p e s m args below meth c s₁ Bd hml0 hP hK
  obtain ⟨rfl, hZ, hh⟩ := hP
  have hx := Bd.exec
  have hby := Bd.bytes
  have hlk : meth.locks = false := BodyLoose.notSynchronized Bd
  have hml : c.maxLocals = 1 := hml0
  have hown : s.vm.findClass "java/util/HashSet" = some m.cls := findClass_of_methodNamed Bd.named
  have hnm := (name_of_methodNamed Bd.named Bd.method).1
  have X0 : Stand p l e ({ frames := 3, cells := 1, slots := 8, locals := 38 } : Room) s m #[(.ref b0)] below meth c s₁ [] 0 0 := Stand.of_body Bd
  have e0 : s₁.heap = h0 := by rw [← hh, Bd.state]; rfl
  have N0 := Fr.nil n0
  show own_G p.tables e below s (QQ_rm13 Z b0 h0 n0) ({ frames := 3, cells := 1, slots := 8, locals := 38 } : Room).cells ({ frames := 3, cells := 1, slots := 8, locals := 38 } : Room).slots (s₁.setTop (entryFrame m #[(.ref b0)] 1))
  refine own_step (B := s₁.setTop (mkF m 0 #[.val (.ref b0)] [])) (fun t k => castTop (ef_rm13 m b0) k) ?_
  have K0 := Keep.refl h0 [b0]
  refine own_step (B := s₁.setTop (mkF m 1 #[.val (.ref b0)] [(.ref b0)])) (fun t k => XS.aloadN X0.here hx rfl (hb hby d13_0) rfl rfl k) ?_
  obtain ⟨_, _, ⟨T1, L1, k1, n1⟩, -, X1, ⟨Lc1, hQ1, l1, y1, z1⟩, st1⟩ := X0.specialBack hx (y := (⟨"java/util/AbstractSet", "<init>", "()V"⟩ : MethodName)) rfl hown (mvT hZ (hw _ (List.mem_of_getElem? (i := 22) rfl))) (mvT hZ (hw _ (List.mem_of_getElem? (i := 23) rfl))) (mvT hZ (hw _ (List.mem_of_getElem? (i := 27) rfl))) (by decide) (backOf (W := 0) (rm5 l Z a0 hw [] b0  h0 n0 Z0 ) hZ (hw _ (List.mem_of_getElem? (i := 27) rfl)) (hw _ (List.mem_of_getElem? (i := 26) rfl)) (by decide) (by decide)) (g := (mkF m 1 #[.val (.ref b0)] [(.ref b0)])) rfl (by rw [hml]; rfl) (Steps.refl _) (a := b0) (argsL := []) (rest := []) (lenOf pd_0 rfl) rfl (by show 2 * 0 + _ ≤ _; exact Nat.le_of_eq rfl) (hb hby d13_1) (fun _ _ => ⟨rfl, e0, (by decide : 0 + 0 ≤ _), (by decide : 0 + 0 ≤ _)⟩)
  dsimp only [Pt.U, Pt.locs, Pt.cells, Pt.slots] at X1 l1 y1 z1 st1 hQ1
  subst l1 y1 z1
  obtain ⟨rfl, N1q, e1⟩ := hQ1
  have N0 := Fr.app N0 N1q
  refine own_step (B := T1.setTop (mkF m 4 #[.val (.ref b0)] [])) (fun t k => st1.trans k) ?_
  refine own_step (B := T1.setTop (mkF m 5 #[.val (.ref b0)] [(.ref b0)])) (fun t k => XS.aloadN X1.here hx rfl (hb hby d13_4) rfl rfl k) ?_
  obtain ⟨T2, h2, X2, e2, E2, A2, D2, -, st2⟩ := newO X1 hx hZ hown (hw _ (List.mem_of_getElem? (i := 87) rfl)) (hw _ (List.mem_of_getElem? (i := 88) rfl)) (hw _ (List.mem_of_getElem? (i := 46) rfl)) e1 (g := (mkF m 5 #[.val (.ref b0)] [(.ref b0)])) rfl (hb hby d13_5) (by decide) (by decide)
  obtain ⟨b2, g2⟩ : ∃ z, z = h0.size := ⟨_, rfl⟩
  rw [← g2] at A2 D2 st2
  have g_b2 : n0 ≤ b2 := Nat.le_trans Z0 (Nat.le_of_eq g2.symm)
  have sz_b2 : h0.size ≤ b2 := Nat.le_trans K0.1 (Nat.le_of_eq g2.symm)
  have ne_b0_b2 : b0 ≠ b2 := Nat.ne_of_lt (Nat.lt_of_lt_of_le E_b0.lt (Nat.le_of_eq g2.symm))
  have E_b0 := E_b0.ext E2
  have F_map_b0 := F_map_b0.ext E2
  have Z0 := Nat.le_trans Z0 E2.1
  have K0 := K0.ext E2
  have E_b2 := A2
  have F_loadFactor_b2 : Fld Z h2 b2 "java/util/HashMap" "loadFactor" "F" (.float 0) := D2 (Or.inr (hw _ (List.mem_of_getElem? (i := 95) rfl))) (ty := .float) (by decide)
  refine own_step (B := T2.setTop (mkF m 8 #[.val (.ref b0)] [(.ref b2), (.ref b0)])) (fun t k => st2 t k) ?_
  refine own_step (B := T2.setTop (mkF m 9 #[.val (.ref b0)] [(.ref b2), (.ref b2), (.ref b0)])) (fun t k => XS.dup X2.here hx rfl (hb hby d13_8) rfl rfl k) ?_
  obtain ⟨_, _, ⟨T3, L3, k3, n3⟩, -, X3, ⟨Lc3, hQ3, l3, y3, z3⟩, st3⟩ := X2.specialBack hx (y := (⟨"java/util/HashMap", "<init>", "()V"⟩ : MethodName)) rfl hown (mvT hZ (hw _ (List.mem_of_getElem? (i := 89) rfl))) (mvT hZ (hw _ (List.mem_of_getElem? (i := 90) rfl))) (mvT hZ (hw _ (List.mem_of_getElem? (i := 92) rfl))) (by decide) (backOf (W := 2) (rm14 l Z a0 hw [] b2  h2 n0 Z0 E_b2 g_b2 F_loadFactor_b2) hZ (hw _ (List.mem_of_getElem? (i := 92) rfl)) (hw _ (List.mem_of_getElem? (i := 46) rfl)) (by decide) (by decide)) (g := (mkF m 9 #[.val (.ref b0)] [(.ref b2), (.ref b2), (.ref b0)])) rfl (by rw [hml]; rfl) (Steps.refl _) (a := b2) (argsL := []) (rest := [(.ref b2), (.ref b0)]) (lenOf pd_0 rfl) rfl (by show 2 * 0 + _ ≤ _; exact Nat.le_of_eq rfl) (hb hby d13_9) (fun _ _ => ⟨rfl, e2, (by decide : 1 + 0 ≤ _), (by decide : 8 + 0 ≤ _)⟩)
  dsimp only [Pt.U, Pt.locs, Pt.cells, Pt.slots] at X3 l3 y3 z3 st3 hQ3
  subst l3 y3 z3
  obtain ⟨rfl, N3q, K3⟩ := hQ3
  have N0 := Fr.app N0 N3q
  have E_b0 := E_b0.keep K3
  have F_map_b0 := F_map_b0.keep K3 (ninS ne_b0_b2 nin0)
  have E_b2 := E_b2.keep K3
  have Z0 := Nat.le_trans Z0 K3.1
  have K0 := K0.trans K3 (allS (Or.inr sz_b2) all0)
  refine own_step (B := T3.setTop (mkF m 12 #[.val (.ref b0)] [(.ref b2), (.ref b0)])) (fun t k => st3.trans k) ?_
  obtain ⟨T4, h4, X4, e4, W4, st4⟩ := putF X3 hx hZ hown (host := "") (Or.inl (hw _ (List.mem_of_getElem? (i := 76) rfl))) Via.refl rfl F_map_b0 E_b0 (Or.inl (hw _ (List.mem_of_getElem? (i := 96) rfl))) (hw _ (List.mem_of_getElem? (i := 81) rfl)) (ty := (.object "java/util/HashMap")) (by decide) rfl rfl (g := (mkF m 12 #[.val (.ref b0)] [(.ref b2), (.ref b0)])) rfl rfl (hb hby d13_12)
  have E_b0 := E_b0.wr W4
  have F_map_b0 := F_map_b0.same W4
  have E_b2 := E_b2.wr W4
  have Z0 := Nat.le_trans Z0 (Keep.of_wr W4).1
  have K0 := K0.wr W4 (Or.inl (List.mem_of_getElem? (i := 0) rfl))
  have N0 := Fr.snoc X4 N0 g_b0
  refine own_step (B := T4.setTop (mkF m 15 #[.val (.ref b0)] [])) (fun t k => st4 t k) ?_
  exact own_retV X4 hx hlk Bd.returns (hb hby d13_15) (by decide) (by decide) (by rw [e4]; exact ⟨rfl, N0, K0⟩)
theorem d15_0 : decode prog_101_method_1_code 0 = .ok (.aload_n 0, 1) := by decide +kernel
theorem d15_1 : decode prog_101_method_1_code 1 = .ok (.invokespecial 1, 3) := by decide +kernel
theorem d15_4 : decode prog_101_method_1_code 4 = .ok (.aload_n 0, 1) := by decide +kernel
theorem d15_5 : decode prog_101_method_1_code 5 = .ok (.lload_n 1, 1) := by decide +kernel
theorem d15_6 : decode prog_101_method_1_code 6 = .ok (.putfield 7, 3) := by decide +kernel
theorem d15_9 : decode prog_101_method_1_code 9 = .ok (.return_, 1) := by decide +kernel
theorem pn_com_example_loomwire_loomwire_transport_MemoryBudget_Pool : plainName "com/example/loomwire/loomwire/transport/MemoryBudget$Pool" = true := by first | (simp [plainName, overriddenIn]; done) | decide +kernel
theorem ef_rm15 (m : MethodId) (x0 : Addr) (x1 : Int64) : entryFrame m #[(.ref x0), (.long x1)] 3 = mkF m 0 #[.val (.ref x0), .val (.long x1), .second] [] := by first | (simp [entryFrame, mkF, argsToLocals, Value.category]; done) | rfl
def QQ_rm15 (Z : State) (b0 : Addr) (q1 : Int64)  (h0 : Heap) (n0 : Nat) (v : Option Value) (h : Heap) (L : List Loc) : Prop := v = none ∧ Fr n0 L ∧ Keep h0 h [b0] ∧ Fld Z h b0 "com/example/loomwire/loomwire/transport/MemoryBudget$Pool" "max" "J" (.long q1) ∧ Fld Z h b0 "com/example/loomwire/loomwire/transport/MemoryBudget$Pool" "used" "J" (.long (0 : Int64))
set_option maxRecDepth 65536 in
set_option maxHeartbeats 40000000 in
theorem rm15 (l : Launch) (Z : State) (a0 : Array Value) (hw : ∀ d ∈ tables_1, d.before a0 Z = true) (ws : List Jvm.Cond) (b0 : Addr) (q1 : Int64)  (h0 : Heap) (n0 : Nat) (Z0 : n0 ≤ h0.size) (E_b0 : Exa Z h0 b0 "com/example/loomwire/loomwire/transport/MemoryBudget$Pool") (g_b0 : n0 ≤ b0) (F_max_b0 : Fld Z h0 b0 "com/example/loomwire/loomwire/transport/MemoryBudget$Pool" "max" "J" (.long (0 : Int64))) (F_used_b0 : Fld Z h0 b0 "com/example/loomwire/loomwire/transport/MemoryBudget$Pool" "used" "J" (.long (0 : Int64))) :
    MetFree l (⟨"com/example/loomwire/loomwire/transport/MemoryBudget$Pool", "<init>", "(J)V"⟩ : MethodName) (head1 (Jvm.Cond.code (⟨"com/example/loomwire/loomwire/transport/MemoryBudget$Pool", "<init>", "(J)V"⟩ : MethodName) prog_101_method_1_code 3 none :: ws) ({ frames := 1, cells := 0, slots := 0, locals := 12 } : Room)) (fun a U => a = #[(.ref b0), (.long q1)] ∧ Z.Warmed39 U.vm ∧ U.heap = h0) (fun _ _ _ _ _ => True) (fun _ U o U' => ∃ v L, o = .returned v ∧ (QQ_rm15 Z b0 q1 h0 n0) v U'.heap L ∧ FrameEnd U o U' L ({ frames := 1, cells := 0, slots := 0, locals := 12 } : Room).cells ({ frames := 1, cells := 0, slots := 0, locals := 12 } : Room).slots) := by
  refine MetFree.of_bodySF (plainFor_of_name pn_com_example_loomwire_loomwire_transport_MemoryBudget_Pool) hisR ?_
  intro p e s m args below meth c s₁ Bd hml0 hP hK
  obtain ⟨rfl, hZ, hh⟩ := hP
  have hx := Bd.exec
  have hby := Bd.bytes
  have hlk : meth.locks = false := BodyLoose.notSynchronized Bd
  have hml : c.maxLocals = 3 := hml0
  have hown : s.vm.findClass "com/example/loomwire/loomwire/transport/MemoryBudget$Pool" = some m.cls := findClass_of_methodNamed Bd.named
  have hnm := (name_of_methodNamed Bd.named Bd.method).1
  have X0 : Stand p l e ({ frames := 1, cells := 0, slots := 0, locals := 12 } : Room) s m #[(.ref b0), (.long q1)] below meth c s₁ [] 0 0 := Stand.of_body Bd
  have e0 : s₁.heap = h0 := by rw [← hh, Bd.state]; rfl
  have N0 := Fr.nil n0
  show own_G p.tables e below s (QQ_rm15 Z b0 q1 h0 n0) ({ frames := 1, cells := 0, slots := 0, locals := 12 } : Room).cells ({ frames := 1, cells := 0, slots := 0, locals := 12 } : Room).slots (s₁.setTop (entryFrame m #[(.ref b0), (.long q1)] 3))
  refine own_step (B := s₁.setTop (mkF m 0 #[.val (.ref b0), .val (.long q1), .second] [])) (fun t k => castTop (ef_rm15 m b0 q1) k) ?_
  have K0 := Keep.refl h0 [b0]
  refine own_step (B := s₁.setTop (mkF m 1 #[.val (.ref b0), .val (.long q1), .second] [(.ref b0)])) (fun t k => XS.aloadN X0.here hx rfl (hb hby d15_0) rfl rfl k) ?_
  obtain ⟨T1, X1, e1, st1⟩ := initO X0 hx hZ hown (hw _ (List.mem_of_getElem? (i := 105) rfl)) (hw _ (List.mem_of_getElem? (i := 7) rfl)) (hw _ (List.mem_of_getElem? (i := 8) rfl)) e0 (g := (mkF m 1 #[.val (.ref b0), .val (.long q1), .second] [(.ref b0)])) rfl (by rw [hml]; rfl) rfl (hb hby d15_1) (by decide) (W := 0) (by show 2 * 0 + _ ≤ _; exact Nat.le_of_eq rfl) (by decide)
  refine own_step (B := T1.setTop (mkF m 4 #[.val (.ref b0), .val (.long q1), .second] [])) (fun t k => st1 t k) ?_
  refine own_step (B := T1.setTop (mkF m 5 #[.val (.ref b0), .val (.long q1), .second] [(.ref b0)])) (fun t k => XS.aloadN X1.here hx rfl (hb hby d15_4) rfl rfl k) ?_
  refine own_step (B := T1.setTop (mkF m 6 #[.val (.ref b0), .val (.long q1), .second] [(.long q1), (.ref b0)])) (fun t k => XS.lloadN X1.here hx rfl (hb hby d15_5) rfl k) ?_
  obtain ⟨T2, h2, X2, e2, W2, st2⟩ := putF X1 hx hZ hown (host := "") (Or.inl (hw _ (List.mem_of_getElem? (i := 106) rfl))) Via.refl e1 F_max_b0 E_b0 (Or.inr ⟨(hw _ (List.mem_of_getElem? (i := 107) rfl)), rfl, hnm⟩) (hw _ (List.mem_of_getElem? (i := 100) rfl)) (ty := .long) (by decide) rfl rfl (g := (mkF m 6 #[.val (.ref b0), .val (.long q1), .second] [(.long q1), (.ref b0)])) rfl rfl (hb hby d15_6)
  have E_b0 := E_b0.wr W2
  have F_max_b0 := F_max_b0.same W2
  have F_used_b0 := F_used_b0.other W2 (Or.inr (slot_ne (Or.inl (hw _ (List.mem_of_getElem? (i := 121) rfl))) (Or.inr (hw _ (List.mem_of_getElem? (i := 107) rfl))) (by decide) (t := .long) (t' := .long) (by decide) (by decide)))
  have Z0 := Nat.le_trans Z0 (Keep.of_wr W2).1
  have K0 := K0.wr W2 (Or.inl (List.mem_of_getElem? (i := 0) rfl))
  have N0 := Fr.snoc X2 N0 g_b0
  refine own_step (B := T2.setTop (mkF m 9 #[.val (.ref b0), .val (.long q1), .second] [])) (fun t k => st2 t k) ?_
  exact own_retV X2 hx hlk Bd.returns (hb hby d15_9) (by decide) (by decide) (by rw [e2]; exact ⟨rfl, N0, K0, F_max_b0, F_used_b0⟩)
theorem d18_0 : decode prog_100_method_1_code 0 = .ok (.aload_n 0, 1) := by decide +kernel
theorem d18_1 : decode prog_100_method_1_code 1 = .ok (.invokespecial 1, 3) := by decide +kernel
theorem d18_4 : decode prog_100_method_1_code 4 = .ok (.aload_n 0, 1) := by decide +kernel
theorem d18_5 : decode prog_100_method_1_code 5 = .ok (.aload_n 1, 1) := by decide +kernel
theorem d18_6 : decode prog_100_method_1_code 6 = .ok (.putfield 7, 3) := by decide +kernel
theorem d18_9 : decode prog_100_method_1_code 9 = .ok (.return_, 1) := by decide +kernel
theorem pn_com_example_loomwire_loomwire_transport_MemoryBudget_Account : plainName "com/example/loomwire/loomwire/transport/MemoryBudget$Account" = true := by first | (simp [plainName, overriddenIn]; done) | decide +kernel
theorem ef_rm18 (m : MethodId) (x0 : Addr) (x1 : Addr) : entryFrame m #[(.ref x0), (.ref x1)] 2 = mkF m 0 #[.val (.ref x0), .val (.ref x1)] [] := by first | (simp [entryFrame, mkF, argsToLocals, Value.category]; done) | rfl
def QQ_rm18 (Z : State) (b0 : Addr) (ba : Addr)  (h0 : Heap) (n0 : Nat) (v : Option Value) (h : Heap) (L : List Loc) : Prop := v = none ∧ Fr n0 L ∧ Keep h0 h [b0] ∧ Fld Z h b0 "com/example/loomwire/loomwire/transport/MemoryBudget$Account" "pool" "Lcom/example/loomwire/loomwire/transport/MemoryBudget$Pool;" (.ref ba) ∧ Fld Z h b0 "com/example/loomwire/loomwire/transport/MemoryBudget$Account" "taken" "J" (.long (0 : Int64)) ∧ Fld Z h b0 "com/example/loomwire/loomwire/transport/MemoryBudget$Account" "closed" "Z" (.int (0 : Int32))
set_option maxRecDepth 65536 in
set_option maxHeartbeats 40000000 in
theorem rm18 (l : Launch) (Z : State) (a0 : Array Value) (hw : ∀ d ∈ tables_1, d.before a0 Z = true) (ws : List Jvm.Cond) (b0 : Addr) (ba : Addr)  (h0 : Heap) (n0 : Nat) (Z0 : n0 ≤ h0.size) (E_b0 : Exa Z h0 b0 "com/example/loomwire/loomwire/transport/MemoryBudget$Account") (g_b0 : n0 ≤ b0) (F_pool_b0 : Fld Z h0 b0 "com/example/loomwire/loomwire/transport/MemoryBudget$Account" "pool" "Lcom/example/loomwire/loomwire/transport/MemoryBudget$Pool;" .null) (F_taken_b0 : Fld Z h0 b0 "com/example/loomwire/loomwire/transport/MemoryBudget$Account" "taken" "J" (.long (0 : Int64))) (F_closed_b0 : Fld Z h0 b0 "com/example/loomwire/loomwire/transport/MemoryBudget$Account" "closed" "Z" (.int (0 : Int32))) :
    MetFree l (⟨"com/example/loomwire/loomwire/transport/MemoryBudget$Account", "<init>", "(Lcom/example/loomwire/loomwire/transport/MemoryBudget$Pool;)V"⟩ : MethodName) (head1 (Jvm.Cond.code (⟨"com/example/loomwire/loomwire/transport/MemoryBudget$Account", "<init>", "(Lcom/example/loomwire/loomwire/transport/MemoryBudget$Pool;)V"⟩ : MethodName) prog_100_method_1_code 2 none :: ws) ({ frames := 1, cells := 0, slots := 0, locals := 12 } : Room)) (fun a U => a = #[(.ref b0), (.ref ba)] ∧ Z.Warmed39 U.vm ∧ U.heap = h0) (fun _ _ _ _ _ => True) (fun _ U o U' => ∃ v L, o = .returned v ∧ (QQ_rm18 Z b0 ba h0 n0) v U'.heap L ∧ FrameEnd U o U' L ({ frames := 1, cells := 0, slots := 0, locals := 12 } : Room).cells ({ frames := 1, cells := 0, slots := 0, locals := 12 } : Room).slots) := by
  refine MetFree.of_bodySF (plainFor_of_name pn_com_example_loomwire_loomwire_transport_MemoryBudget_Account) hisR ?_
  intro p e s m args below meth c s₁ Bd hml0 hP hK
  obtain ⟨rfl, hZ, hh⟩ := hP
  have hx := Bd.exec
  have hby := Bd.bytes
  have hlk : meth.locks = false := BodyLoose.notSynchronized Bd
  have hml : c.maxLocals = 2 := hml0
  have hown : s.vm.findClass "com/example/loomwire/loomwire/transport/MemoryBudget$Account" = some m.cls := findClass_of_methodNamed Bd.named
  have hnm := (name_of_methodNamed Bd.named Bd.method).1
  have X0 : Stand p l e ({ frames := 1, cells := 0, slots := 0, locals := 12 } : Room) s m #[(.ref b0), (.ref ba)] below meth c s₁ [] 0 0 := Stand.of_body Bd
  have e0 : s₁.heap = h0 := by rw [← hh, Bd.state]; rfl
  have N0 := Fr.nil n0
  show own_G p.tables e below s (QQ_rm18 Z b0 ba h0 n0) ({ frames := 1, cells := 0, slots := 0, locals := 12 } : Room).cells ({ frames := 1, cells := 0, slots := 0, locals := 12 } : Room).slots (s₁.setTop (entryFrame m #[(.ref b0), (.ref ba)] 2))
  refine own_step (B := s₁.setTop (mkF m 0 #[.val (.ref b0), .val (.ref ba)] [])) (fun t k => castTop (ef_rm18 m b0 ba) k) ?_
  have K0 := Keep.refl h0 [b0]
  refine own_step (B := s₁.setTop (mkF m 1 #[.val (.ref b0), .val (.ref ba)] [(.ref b0)])) (fun t k => XS.aloadN X0.here hx rfl (hb hby d18_0) rfl rfl k) ?_
  obtain ⟨T1, X1, e1, st1⟩ := initO X0 hx hZ hown (hw _ (List.mem_of_getElem? (i := 133) rfl)) (hw _ (List.mem_of_getElem? (i := 7) rfl)) (hw _ (List.mem_of_getElem? (i := 8) rfl)) e0 (g := (mkF m 1 #[.val (.ref b0), .val (.ref ba)] [(.ref b0)])) rfl (by rw [hml]; rfl) rfl (hb hby d18_1) (by decide) (W := 0) (by show 2 * 0 + _ ≤ _; exact Nat.le_of_eq rfl) (by decide)
  refine own_step (B := T1.setTop (mkF m 4 #[.val (.ref b0), .val (.ref ba)] [])) (fun t k => st1 t k) ?_
  refine own_step (B := T1.setTop (mkF m 5 #[.val (.ref b0), .val (.ref ba)] [(.ref b0)])) (fun t k => XS.aloadN X1.here hx rfl (hb hby d18_4) rfl rfl k) ?_
  refine own_step (B := T1.setTop (mkF m 6 #[.val (.ref b0), .val (.ref ba)] [(.ref ba), (.ref b0)])) (fun t k => XS.aloadN X1.here hx rfl (hb hby d18_5) rfl rfl k) ?_
  obtain ⟨T2, h2, X2, e2, W2, st2⟩ := putF X1 hx hZ hown (host := "") (Or.inl (hw _ (List.mem_of_getElem? (i := 134) rfl))) Via.refl e1 F_pool_b0 E_b0 (Or.inr ⟨(hw _ (List.mem_of_getElem? (i := 135) rfl)), rfl, hnm⟩) (hw _ (List.mem_of_getElem? (i := 128) rfl)) (ty := (.object "com/example/loomwire/loomwire/transport/MemoryBudget$Pool")) (by decide) rfl rfl (g := (mkF m 6 #[.val (.ref b0), .val (.ref ba)] [(.ref ba), (.ref b0)])) rfl rfl (hb hby d18_6)
  have E_b0 := E_b0.wr W2
  have F_pool_b0 := F_pool_b0.same W2
  have F_taken_b0 := F_taken_b0.other W2 (Or.inr (slot_ne (Or.inl (hw _ (List.mem_of_getElem? (i := 145) rfl))) (Or.inr (hw _ (List.mem_of_getElem? (i := 135) rfl))) (by decide) (t := .long) (t' := (.object "com/example/loomwire/loomwire/transport/MemoryBudget$Pool")) (by decide) (by decide)))
  have F_closed_b0 := F_closed_b0.other W2 (Or.inr (slot_ne (Or.inl (hw _ (List.mem_of_getElem? (i := 142) rfl))) (Or.inr (hw _ (List.mem_of_getElem? (i := 135) rfl))) (by decide) (t := .boolean) (t' := (.object "com/example/loomwire/loomwire/transport/MemoryBudget$Pool")) (by decide) (by decide)))
  have Z0 := Nat.le_trans Z0 (Keep.of_wr W2).1
  have K0 := K0.wr W2 (Or.inl (List.mem_of_getElem? (i := 0) rfl))
  have N0 := Fr.snoc X2 N0 g_b0
  refine own_step (B := T2.setTop (mkF m 9 #[.val (.ref b0), .val (.ref ba)] [])) (fun t k => st2 t k) ?_
  exact own_retV X2 hx hlk Bd.returns (hb hby d18_9) (by decide) (by decide) (by rw [e2]; exact ⟨rfl, N0, K0, F_pool_b0, F_taken_b0, F_closed_b0⟩)
theorem d1_0 : decode prog_99_method_1_code 0 = .ok (.aload_n 0, 1) := by decide +kernel
theorem d1_1 : decode prog_99_method_1_code 1 = .ok (.invokespecial 1, 3) := by decide +kernel
theorem d1_4 : decode prog_99_method_1_code 4 = .ok (.aload_n 0, 1) := by decide +kernel
theorem d1_5 : decode prog_99_method_1_code 5 = .ok (.new 7, 3) := by decide +kernel
theorem d1_8 : decode prog_99_method_1_code 8 = .ok (.dup, 1) := by decide +kernel
theorem d1_9 : decode prog_99_method_1_code 9 = .ok (.invokespecial 9, 3) := by decide +kernel
theorem d1_12 : decode prog_99_method_1_code 12 = .ok (.putfield 10, 3) := by decide +kernel
theorem d1_15 : decode prog_99_method_1_code 15 = .ok (.aload_n 0, 1) := by decide +kernel
theorem d1_16 : decode prog_99_method_1_code 16 = .ok (.new 16, 3) := by decide +kernel
theorem d1_19 : decode prog_99_method_1_code 19 = .ok (.dup, 1) := by decide +kernel
theorem d1_20 : decode prog_99_method_1_code 20 = .ok (.invokespecial 18, 3) := by decide +kernel
theorem d1_23 : decode prog_99_method_1_code 23 = .ok (.putfield 19, 3) := by decide +kernel
theorem d1_26 : decode prog_99_method_1_code 26 = .ok (.aload_n 0, 1) := by decide +kernel
theorem d1_27 : decode prog_99_method_1_code 27 = .ok (.new 22, 3) := by decide +kernel
theorem d1_30 : decode prog_99_method_1_code 30 = .ok (.dup, 1) := by decide +kernel
theorem d1_31 : decode prog_99_method_1_code 31 = .ok (.lload_n 1, 1) := by decide +kernel
theorem d1_32 : decode prog_99_method_1_code 32 = .ok (.invokespecial 24, 3) := by decide +kernel
theorem d1_35 : decode prog_99_method_1_code 35 = .ok (.putfield 27, 3) := by decide +kernel
theorem d1_38 : decode prog_99_method_1_code 38 = .ok (.aload_n 0, 1) := by decide +kernel
theorem d1_39 : decode prog_99_method_1_code 39 = .ok (.new 22, 3) := by decide +kernel
theorem d1_42 : decode prog_99_method_1_code 42 = .ok (.dup, 1) := by decide +kernel
theorem d1_43 : decode prog_99_method_1_code 43 = .ok (.lload_n 3, 1) := by decide +kernel
theorem d1_44 : decode prog_99_method_1_code 44 = .ok (.invokespecial 24, 3) := by decide +kernel
theorem d1_47 : decode prog_99_method_1_code 47 = .ok (.putfield 31, 3) := by decide +kernel
theorem d1_50 : decode prog_99_method_1_code 50 = .ok (.aload_n 0, 1) := by decide +kernel
theorem d1_51 : decode prog_99_method_1_code 51 = .ok (.iload 5, 2) := by decide +kernel
theorem d1_53 : decode prog_99_method_1_code 53 = .ok (.putfield 34, 3) := by decide +kernel
theorem d1_56 : decode prog_99_method_1_code 56 = .ok (.return_, 1) := by decide +kernel
theorem pn_com_example_loomwire_loomwire_transport_MemoryBudget : plainName "com/example/loomwire/loomwire/transport/MemoryBudget" = true := by first | (simp [plainName, overriddenIn]; done) | decide +kernel
theorem ef_rm1 (m : MethodId) (x0 : Addr) (x1 : Int64) (x2 : Int64) (x3 : Int32) : entryFrame m #[(.ref x0), (.long x1), (.long x2), (.int x3)] 6 = mkF m 0 #[.val (.ref x0), .val (.long x1), .second, .val (.long x2), .second, .val (.int x3)] [] := by first | (simp [entryFrame, mkF, argsToLocals, Value.category]; done) | rfl
def QQ_rm1 (Z : State) (b0 : Addr) (q1 : Int64) (q2 : Int64) (p3 : Int32)  (h0 : Heap) (n0 : Nat) (v : Option Value) (h : Heap) (L : List Loc) : Prop := ∃ ph pq : Addr, v = none ∧ Fr n0 L ∧ Keep h0 h [b0] ∧ n0 ≤ ph ∧ n0 ≤ pq ∧ ph ≠ pq ∧ b0 ≠ ph ∧ b0 ≠ pq ∧ Fld Z h b0 "com/example/loomwire/loomwire/transport/MemoryBudget" "held" "Lcom/example/loomwire/loomwire/transport/MemoryBudget$Pool;" (.ref ph) ∧ Fld Z h b0 "com/example/loomwire/loomwire/transport/MemoryBudget" "queued" "Lcom/example/loomwire/loomwire/transport/MemoryBudget$Pool;" (.ref pq) ∧ Exa Z h ph "com/example/loomwire/loomwire/transport/MemoryBudget$Pool" ∧ Exa Z h pq "com/example/loomwire/loomwire/transport/MemoryBudget$Pool" ∧ Fld Z h ph "com/example/loomwire/loomwire/transport/MemoryBudget$Pool" "max" "J" (.long q1) ∧ Fld Z h ph "com/example/loomwire/loomwire/transport/MemoryBudget$Pool" "used" "J" (.long (0 : Int64)) ∧ Fld Z h pq "com/example/loomwire/loomwire/transport/MemoryBudget$Pool" "max" "J" (.long q2) ∧ Fld Z h pq "com/example/loomwire/loomwire/transport/MemoryBudget$Pool" "used" "J" (.long (0 : Int64))
set_option maxRecDepth 65536 in
set_option maxHeartbeats 40000000 in
theorem rm1 (l : Launch) (Z : State) (a0 : Array Value) (hw : ∀ d ∈ tables_1, d.before a0 Z = true) (ws : List Jvm.Cond) (b0 : Addr) (q1 : Int64) (q2 : Int64) (p3 : Int32)  (h0 : Heap) (n0 : Nat) (Z0 : n0 ≤ h0.size) (E_b0 : Exa Z h0 b0 "com/example/loomwire/loomwire/transport/MemoryBudget") (g_b0 : n0 ≤ b0) (F_served_b0 : Fld Z h0 b0 "com/example/loomwire/loomwire/transport/MemoryBudget" "served" "Ljava/util/Set;" .null) (F_refused_b0 : Fld Z h0 b0 "com/example/loomwire/loomwire/transport/MemoryBudget" "refused" "Ljava/util/Set;" .null) (F_held_b0 : Fld Z h0 b0 "com/example/loomwire/loomwire/transport/MemoryBudget" "held" "Lcom/example/loomwire/loomwire/transport/MemoryBudget$Pool;" .null) (F_queued_b0 : Fld Z h0 b0 "com/example/loomwire/loomwire/transport/MemoryBudget" "queued" "Lcom/example/loomwire/loomwire/transport/MemoryBudget$Pool;" .null) (F_maxConnections_b0 : Fld Z h0 b0 "com/example/loomwire/loomwire/transport/MemoryBudget" "maxConnections" "I" (.int (0 : Int32))) :
    MetFree l (⟨"com/example/loomwire/loomwire/transport/MemoryBudget", "<init>", "(JJI)V"⟩ : MethodName) (head1 (Jvm.Cond.code (⟨"com/example/loomwire/loomwire/transport/MemoryBudget", "<init>", "(JJI)V"⟩ : MethodName) prog_99_method_1_code 6 none :: ws) ({ frames := 6, cells := 6, slots := 26, locals := 87 } : Room)) (fun a U => a = #[(.ref b0), (.long q1), (.long q2), (.int p3)] ∧ Z.Warmed39 U.vm ∧ U.heap = h0) (fun _ _ _ _ _ => True) (fun _ U o U' => ∃ v L, o = .returned v ∧ (QQ_rm1 Z b0 q1 q2 p3 h0 n0) v U'.heap L ∧ FrameEnd U o U' L ({ frames := 6, cells := 6, slots := 26, locals := 87 } : Room).cells ({ frames := 6, cells := 6, slots := 26, locals := 87 } : Room).slots) := by
  refine MetFree.of_bodySF (plainFor_of_name pn_com_example_loomwire_loomwire_transport_MemoryBudget) hisR ?_
  intro p e s m args below meth c s₁ Bd hml0 hP hK
  obtain ⟨rfl, hZ, hh⟩ := hP
  have hx := Bd.exec
  have hby := Bd.bytes
  have hlk : meth.locks = false := BodyLoose.notSynchronized Bd
  have hml : c.maxLocals = 6 := hml0
  have hown : s.vm.findClass "com/example/loomwire/loomwire/transport/MemoryBudget" = some m.cls := findClass_of_methodNamed Bd.named
  have hnm := (name_of_methodNamed Bd.named Bd.method).1
  have X0 : Stand p l e ({ frames := 6, cells := 6, slots := 26, locals := 87 } : Room) s m #[(.ref b0), (.long q1), (.long q2), (.int p3)] below meth c s₁ [] 0 0 := Stand.of_body Bd
  have e0 : s₁.heap = h0 := by rw [← hh, Bd.state]; rfl
  have N0 := Fr.nil n0
  show own_G p.tables e below s (QQ_rm1 Z b0 q1 q2 p3 h0 n0) ({ frames := 6, cells := 6, slots := 26, locals := 87 } : Room).cells ({ frames := 6, cells := 6, slots := 26, locals := 87 } : Room).slots (s₁.setTop (entryFrame m #[(.ref b0), (.long q1), (.long q2), (.int p3)] 6))
  refine own_step (B := s₁.setTop (mkF m 0 #[.val (.ref b0), .val (.long q1), .second, .val (.long q2), .second, .val (.int p3)] [])) (fun t k => castTop (ef_rm1 m b0 q1 q2 p3) k) ?_
  have K0 := Keep.refl h0 [b0]
  refine own_step (B := s₁.setTop (mkF m 1 #[.val (.ref b0), .val (.long q1), .second, .val (.long q2), .second, .val (.int p3)] [(.ref b0)])) (fun t k => XS.aloadN X0.here hx rfl (hb hby d1_0) rfl rfl k) ?_
  obtain ⟨T1, X1, e1, st1⟩ := initO X0 hx hZ hown (hw _ (List.mem_of_getElem? (i := 6) rfl)) (hw _ (List.mem_of_getElem? (i := 7) rfl)) (hw _ (List.mem_of_getElem? (i := 8) rfl)) e0 (g := (mkF m 1 #[.val (.ref b0), .val (.long q1), .second, .val (.long q2), .second, .val (.int p3)] [(.ref b0)])) rfl (by rw [hml]; rfl) rfl (hb hby d1_1) (by decide) (W := 0) (by show 2 * 0 + _ ≤ _; exact Nat.le_of_eq rfl) (by decide)
  refine own_step (B := T1.setTop (mkF m 4 #[.val (.ref b0), .val (.long q1), .second, .val (.long q2), .second, .val (.int p3)] [])) (fun t k => st1 t k) ?_
  refine own_step (B := T1.setTop (mkF m 5 #[.val (.ref b0), .val (.long q1), .second, .val (.long q2), .second, .val (.int p3)] [(.ref b0)])) (fun t k => XS.aloadN X1.here hx rfl (hb hby d1_4) rfl rfl k) ?_
  obtain ⟨T2, h2, X2, e2, E2, A2, D2, -, st2⟩ := newO X1 hx hZ hown (hw _ (List.mem_of_getElem? (i := 9) rfl)) (hw _ (List.mem_of_getElem? (i := 10) rfl)) (hw _ (List.mem_of_getElem? (i := 11) rfl)) e1 (g := (mkF m 5 #[.val (.ref b0), .val (.long q1), .second, .val (.long q2), .second, .val (.int p3)] [(.ref b0)])) rfl (hb hby d1_5) (by decide) (by decide)
  obtain ⟨xs, g2⟩ : ∃ z, z = h0.size := ⟨_, rfl⟩
  rw [← g2] at A2 D2 st2
  have g_xs : n0 ≤ xs := Nat.le_trans Z0 (Nat.le_of_eq g2.symm)
  have sz_xs : h0.size ≤ xs := Nat.le_trans K0.1 (Nat.le_of_eq g2.symm)
  have ne_b0_xs : b0 ≠ xs := Nat.ne_of_lt (Nat.lt_of_lt_of_le E_b0.lt (Nat.le_of_eq g2.symm))
  have E_b0 := E_b0.ext E2
  have F_served_b0 := F_served_b0.ext E2
  have F_refused_b0 := F_refused_b0.ext E2
  have F_held_b0 := F_held_b0.ext E2
  have F_queued_b0 := F_queued_b0.ext E2
  have F_maxConnections_b0 := F_maxConnections_b0.ext E2
  have Z0 := Nat.le_trans Z0 E2.1
  have K0 := K0.ext E2
  have E_xs := A2
  have F_map_xs : Fld Z h2 xs "java/util/HashSet" "map" "Ljava/util/HashMap;" .null := D2 (Or.inl (hw _ (List.mem_of_getElem? (i := 77) rfl))) (ty := (.object "java/util/HashMap")) (by decide)
  refine own_step (B := T2.setTop (mkF m 8 #[.val (.ref b0), .val (.long q1), .second, .val (.long q2), .second, .val (.int p3)] [(.ref xs), (.ref b0)])) (fun t k => st2 t k) ?_
  refine own_step (B := T2.setTop (mkF m 9 #[.val (.ref b0), .val (.long q1), .second, .val (.long q2), .second, .val (.int p3)] [(.ref xs), (.ref xs), (.ref b0)])) (fun t k => XS.dup X2.here hx rfl (hb hby d1_8) rfl rfl k) ?_
  obtain ⟨_, _, ⟨T3, L3, k3, n3⟩, -, X3, ⟨Lc3, hQ3, l3, y3, z3⟩, st3⟩ := X2.specialBack hx (y := (⟨"java/util/LinkedHashSet", "<init>", "()V"⟩ : MethodName)) rfl hown (mvT hZ (hw _ (List.mem_of_getElem? (i := 12) rfl))) (mvT hZ (hw _ (List.mem_of_getElem? (i := 13) rfl))) (mvT hZ (hw _ (List.mem_of_getElem? (i := 14) rfl))) (by decide) (backOf (W := 2) (rm3 l Z a0 hw [] xs  h2 n0 Z0 E_xs g_xs F_map_xs) hZ (hw _ (List.mem_of_getElem? (i := 14) rfl)) (hw _ (List.mem_of_getElem? (i := 11) rfl)) (by decide) (by decide)) (g := (mkF m 9 #[.val (.ref b0), .val (.long q1), .second, .val (.long q2), .second, .val (.int p3)] [(.ref xs), (.ref xs), (.ref b0)])) rfl (by rw [hml]; rfl) (Steps.refl _) (a := xs) (argsL := []) (rest := [(.ref xs), (.ref b0)]) (lenOf pd_0 rfl) rfl (by show 2 * 0 + _ ≤ _; exact Nat.le_of_eq rfl) (hb hby d1_9) (fun _ _ => ⟨rfl, e2, (by decide : 1 + 1 ≤ _), (by decide : 1 + 12 ≤ _)⟩)
  dsimp only [Pt.U, Pt.locs, Pt.cells, Pt.slots] at X3 l3 y3 z3 st3 hQ3
  subst l3 y3 z3
  obtain ⟨rfl, N3q, K3⟩ := hQ3
  have N0 := Fr.app N0 N3q
  have E_b0 := E_b0.keep K3
  have F_served_b0 := F_served_b0.keep K3 (ninS ne_b0_xs nin0)
  have F_refused_b0 := F_refused_b0.keep K3 (ninS ne_b0_xs nin0)
  have F_held_b0 := F_held_b0.keep K3 (ninS ne_b0_xs nin0)
  have F_queued_b0 := F_queued_b0.keep K3 (ninS ne_b0_xs nin0)
  have F_maxConnections_b0 := F_maxConnections_b0.keep K3 (ninS ne_b0_xs nin0)
  have E_xs := E_xs.keep K3
  have Z0 := Nat.le_trans Z0 K3.1
  have K0 := K0.trans K3 (allS (Or.inr sz_xs) all0)
  refine own_step (B := T3.setTop (mkF m 12 #[.val (.ref b0), .val (.long q1), .second, .val (.long q2), .second, .val (.int p3)] [(.ref xs), (.ref b0)])) (fun t k => st3.trans k) ?_
  obtain ⟨T4, h4, X4, e4, W4, st4⟩ := putF X3 hx hZ hown (host := "") (Or.inl (hw _ (List.mem_of_getElem? (i := 78) rfl))) Via.refl rfl F_served_b0 E_b0 (Or.inr ⟨(hw _ (List.mem_of_getElem? (i := 79) rfl)), rfl, hnm⟩) (hw _ (List.mem_of_getElem? (i := 1) rfl)) (ty := (.object "java/util/Set")) (by decide) rfl rfl (g := (mkF m 12 #[.val (.ref b0), .val (.long q1), .second, .val (.long q2), .second, .val (.int p3)] [(.ref xs), (.ref b0)])) rfl rfl (hb hby d1_12)
  have E_b0 := E_b0.wr W4
  have F_served_b0 := F_served_b0.same W4
  have F_refused_b0 := F_refused_b0.other W4 (Or.inr (slot_ne (Or.inr (hw _ (List.mem_of_getElem? (i := 98) rfl))) (Or.inr (hw _ (List.mem_of_getElem? (i := 79) rfl))) (by decide) (t := (.object "java/util/Set")) (t' := (.object "java/util/Set")) (by decide) (by decide)))
  have F_held_b0 := F_held_b0.other W4 (Or.inr (slot_ne (Or.inr (hw _ (List.mem_of_getElem? (i := 109) rfl))) (Or.inr (hw _ (List.mem_of_getElem? (i := 79) rfl))) (by decide) (t := (.object "com/example/loomwire/loomwire/transport/MemoryBudget$Pool")) (t' := (.object "java/util/Set")) (by decide) (by decide)))
  have F_queued_b0 := F_queued_b0.other W4 (Or.inr (slot_ne (Or.inr (hw _ (List.mem_of_getElem? (i := 111) rfl))) (Or.inr (hw _ (List.mem_of_getElem? (i := 79) rfl))) (by decide) (t := (.object "com/example/loomwire/loomwire/transport/MemoryBudget$Pool")) (t' := (.object "java/util/Set")) (by decide) (by decide)))
  have F_maxConnections_b0 := F_maxConnections_b0.other W4 (Or.inr (slot_ne (Or.inr (hw _ (List.mem_of_getElem? (i := 113) rfl))) (Or.inr (hw _ (List.mem_of_getElem? (i := 79) rfl))) (by decide) (t := .int) (t' := (.object "java/util/Set")) (by decide) (by decide)))
  have E_xs := E_xs.wr W4
  have Z0 := Nat.le_trans Z0 (Keep.of_wr W4).1
  have K0 := K0.wr W4 (Or.inl (List.mem_of_getElem? (i := 0) rfl))
  have N0 := Fr.snoc X4 N0 g_b0
  refine own_step (B := T4.setTop (mkF m 15 #[.val (.ref b0), .val (.long q1), .second, .val (.long q2), .second, .val (.int p3)] [])) (fun t k => st4 t k) ?_
  refine own_step (B := T4.setTop (mkF m 16 #[.val (.ref b0), .val (.long q1), .second, .val (.long q2), .second, .val (.int p3)] [(.ref b0)])) (fun t k => XS.aloadN X4.here hx rfl (hb hby d1_15) rfl rfl k) ?_
  obtain ⟨T5, h5, X5, e5, E5, A5, D5, -, st5⟩ := newO X4 hx hZ hown (hw _ (List.mem_of_getElem? (i := 80) rfl)) (hw _ (List.mem_of_getElem? (i := 81) rfl)) (hw _ (List.mem_of_getElem? (i := 20) rfl)) e4 (g := (mkF m 16 #[.val (.ref b0), .val (.long q1), .second, .val (.long q2), .second, .val (.int p3)] [(.ref b0)])) rfl (hb hby d1_16) (by decide) (by decide)
  obtain ⟨xr, g5⟩ : ∃ z, z = h4.size := ⟨_, rfl⟩
  rw [← g5] at A5 D5 st5
  have g_xr : n0 ≤ xr := Nat.le_trans Z0 (Nat.le_of_eq g5.symm)
  have sz_xr : h0.size ≤ xr := Nat.le_trans K0.1 (Nat.le_of_eq g5.symm)
  have ne_b0_xr : b0 ≠ xr := Nat.ne_of_lt (Nat.lt_of_lt_of_le E_b0.lt (Nat.le_of_eq g5.symm))
  have ne_xs_xr : xs ≠ xr := Nat.ne_of_lt (Nat.lt_of_lt_of_le E_xs.lt (Nat.le_of_eq g5.symm))
  have E_b0 := E_b0.ext E5
  have F_served_b0 := F_served_b0.ext E5
  have F_refused_b0 := F_refused_b0.ext E5
  have F_held_b0 := F_held_b0.ext E5
  have F_queued_b0 := F_queued_b0.ext E5
  have F_maxConnections_b0 := F_maxConnections_b0.ext E5
  have E_xs := E_xs.ext E5
  have Z0 := Nat.le_trans Z0 E5.1
  have K0 := K0.ext E5
  have E_xr := A5
  have F_map_xr : Fld Z h5 xr "java/util/HashSet" "map" "Ljava/util/HashMap;" .null := D5 (Or.inl (hw _ (List.mem_of_getElem? (i := 96) rfl))) (ty := (.object "java/util/HashMap")) (by decide)
  refine own_step (B := T5.setTop (mkF m 19 #[.val (.ref b0), .val (.long q1), .second, .val (.long q2), .second, .val (.int p3)] [(.ref xr), (.ref b0)])) (fun t k => st5 t k) ?_
  refine own_step (B := T5.setTop (mkF m 20 #[.val (.ref b0), .val (.long q1), .second, .val (.long q2), .second, .val (.int p3)] [(.ref xr), (.ref xr), (.ref b0)])) (fun t k => XS.dup X5.here hx rfl (hb hby d1_19) rfl rfl k) ?_
  obtain ⟨_, _, ⟨T6, L6, k6, n6⟩, -, X6, ⟨Lc6, hQ6, l6, y6, z6⟩, st6⟩ := X5.specialBack hx (y := (⟨"java/util/HashSet", "<init>", "()V"⟩ : MethodName)) rfl hown (mvT hZ (hw _ (List.mem_of_getElem? (i := 82) rfl))) (mvT hZ (hw _ (List.mem_of_getElem? (i := 83) rfl))) (mvT hZ (hw _ (List.mem_of_getElem? (i := 84) rfl))) (by decide) (backOf (W := 2) (rm13 l Z a0 hw [] xr  h5 n0 Z0 E_xr g_xr F_map_xr) hZ (hw _ (List.mem_of_getElem? (i := 84) rfl)) (hw _ (List.mem_of_getElem? (i := 20) rfl)) (by decide) (by decide)) (g := (mkF m 20 #[.val (.ref b0), .val (.long q1), .second, .val (.long q2), .second, .val (.int p3)] [(.ref xr), (.ref xr), (.ref b0)])) rfl (by rw [hml]; rfl) (Steps.refl _) (a := xr) (argsL := []) (rest := [(.ref xr), (.ref b0)]) (lenOf pd_0 rfl) rfl (by show 2 * 0 + _ ≤ _; exact Nat.le_of_eq rfl) (hb hby d1_20) (fun _ _ => ⟨rfl, e5, (by decide : 3 + 1 ≤ _), (by decide : 14 + 8 ≤ _)⟩)
  dsimp only [Pt.U, Pt.locs, Pt.cells, Pt.slots] at X6 l6 y6 z6 st6 hQ6
  subst l6 y6 z6
  obtain ⟨rfl, N6q, K6⟩ := hQ6
  have N0 := Fr.app N0 N6q
  have E_b0 := E_b0.keep K6
  have F_served_b0 := F_served_b0.keep K6 (ninS ne_b0_xr nin0)
  have F_refused_b0 := F_refused_b0.keep K6 (ninS ne_b0_xr nin0)
  have F_held_b0 := F_held_b0.keep K6 (ninS ne_b0_xr nin0)
  have F_queued_b0 := F_queued_b0.keep K6 (ninS ne_b0_xr nin0)
  have F_maxConnections_b0 := F_maxConnections_b0.keep K6 (ninS ne_b0_xr nin0)
  have E_xs := E_xs.keep K6
  have E_xr := E_xr.keep K6
  have Z0 := Nat.le_trans Z0 K6.1
  have K0 := K0.trans K6 (allS (Or.inr sz_xr) all0)
  refine own_step (B := T6.setTop (mkF m 23 #[.val (.ref b0), .val (.long q1), .second, .val (.long q2), .second, .val (.int p3)] [(.ref xr), (.ref b0)])) (fun t k => st6.trans k) ?_
  obtain ⟨T7, h7, X7, e7, W7, st7⟩ := putF X6 hx hZ hown (host := "") (Or.inl (hw _ (List.mem_of_getElem? (i := 97) rfl))) Via.refl rfl F_refused_b0 E_b0 (Or.inr ⟨(hw _ (List.mem_of_getElem? (i := 98) rfl)), rfl, hnm⟩) (hw _ (List.mem_of_getElem? (i := 1) rfl)) (ty := (.object "java/util/Set")) (by decide) rfl rfl (g := (mkF m 23 #[.val (.ref b0), .val (.long q1), .second, .val (.long q2), .second, .val (.int p3)] [(.ref xr), (.ref b0)])) rfl rfl (hb hby d1_23)
  have E_b0 := E_b0.wr W7
  have F_served_b0 := F_served_b0.other W7 (Or.inr (slot_ne (Or.inr (hw _ (List.mem_of_getElem? (i := 79) rfl))) (Or.inr (hw _ (List.mem_of_getElem? (i := 98) rfl))) (by decide) (t := (.object "java/util/Set")) (t' := (.object "java/util/Set")) (by decide) (by decide)))
  have F_refused_b0 := F_refused_b0.same W7
  have F_held_b0 := F_held_b0.other W7 (Or.inr (slot_ne (Or.inr (hw _ (List.mem_of_getElem? (i := 109) rfl))) (Or.inr (hw _ (List.mem_of_getElem? (i := 98) rfl))) (by decide) (t := (.object "com/example/loomwire/loomwire/transport/MemoryBudget$Pool")) (t' := (.object "java/util/Set")) (by decide) (by decide)))
  have F_queued_b0 := F_queued_b0.other W7 (Or.inr (slot_ne (Or.inr (hw _ (List.mem_of_getElem? (i := 111) rfl))) (Or.inr (hw _ (List.mem_of_getElem? (i := 98) rfl))) (by decide) (t := (.object "com/example/loomwire/loomwire/transport/MemoryBudget$Pool")) (t' := (.object "java/util/Set")) (by decide) (by decide)))
  have F_maxConnections_b0 := F_maxConnections_b0.other W7 (Or.inr (slot_ne (Or.inr (hw _ (List.mem_of_getElem? (i := 113) rfl))) (Or.inr (hw _ (List.mem_of_getElem? (i := 98) rfl))) (by decide) (t := .int) (t' := (.object "java/util/Set")) (by decide) (by decide)))
  have E_xs := E_xs.wr W7
  have E_xr := E_xr.wr W7
  have Z0 := Nat.le_trans Z0 (Keep.of_wr W7).1
  have K0 := K0.wr W7 (Or.inl (List.mem_of_getElem? (i := 0) rfl))
  have N0 := Fr.snoc X7 N0 g_b0
  refine own_step (B := T7.setTop (mkF m 26 #[.val (.ref b0), .val (.long q1), .second, .val (.long q2), .second, .val (.int p3)] [])) (fun t k => st7 t k) ?_
  refine own_step (B := T7.setTop (mkF m 27 #[.val (.ref b0), .val (.long q1), .second, .val (.long q2), .second, .val (.int p3)] [(.ref b0)])) (fun t k => XS.aloadN X7.here hx rfl (hb hby d1_26) rfl rfl k) ?_
  obtain ⟨T8, h8, X8, e8, E8, A8, D8, -, st8⟩ := newO X7 hx hZ hown (hw _ (List.mem_of_getElem? (i := 99) rfl)) (hw _ (List.mem_of_getElem? (i := 100) rfl)) (hw _ (List.mem_of_getElem? (i := 101) rfl)) e7 (g := (mkF m 27 #[.val (.ref b0), .val (.long q1), .second, .val (.long q2), .second, .val (.int p3)] [(.ref b0)])) rfl (hb hby d1_27) (by decide) (by decide)
  obtain ⟨xh, g8⟩ : ∃ z, z = h7.size := ⟨_, rfl⟩
  rw [← g8] at A8 D8 st8
  have g_xh : n0 ≤ xh := Nat.le_trans Z0 (Nat.le_of_eq g8.symm)
  have sz_xh : h0.size ≤ xh := Nat.le_trans K0.1 (Nat.le_of_eq g8.symm)
  have ne_b0_xh : b0 ≠ xh := Nat.ne_of_lt (Nat.lt_of_lt_of_le E_b0.lt (Nat.le_of_eq g8.symm))
  have ne_xs_xh : xs ≠ xh := Nat.ne_of_lt (Nat.lt_of_lt_of_le E_xs.lt (Nat.le_of_eq g8.symm))
  have ne_xr_xh : xr ≠ xh := Nat.ne_of_lt (Nat.lt_of_lt_of_le E_xr.lt (Nat.le_of_eq g8.symm))
  have E_b0 := E_b0.ext E8
  have F_served_b0 := F_served_b0.ext E8
  have F_refused_b0 := F_refused_b0.ext E8
  have F_held_b0 := F_held_b0.ext E8
  have F_queued_b0 := F_queued_b0.ext E8
  have F_maxConnections_b0 := F_maxConnections_b0.ext E8
  have E_xs := E_xs.ext E8
  have E_xr := E_xr.ext E8
  have Z0 := Nat.le_trans Z0 E8.1
  have K0 := K0.ext E8
  have E_xh := A8
  have F_max_xh : Fld Z h8 xh "com/example/loomwire/loomwire/transport/MemoryBudget$Pool" "max" "J" (.long (0 : Int64)) := D8 (Or.inr (hw _ (List.mem_of_getElem? (i := 107) rfl))) (ty := .long) (by decide)
  have F_used_xh : Fld Z h8 xh "com/example/loomwire/loomwire/transport/MemoryBudget$Pool" "used" "J" (.long (0 : Int64)) := D8 (Or.inl (hw _ (List.mem_of_getElem? (i := 121) rfl))) (ty := .long) (by decide)
  refine own_step (B := T8.setTop (mkF m 30 #[.val (.ref b0), .val (.long q1), .second, .val (.long q2), .second, .val (.int p3)] [(.ref xh), (.ref b0)])) (fun t k => st8 t k) ?_
  refine own_step (B := T8.setTop (mkF m 31 #[.val (.ref b0), .val (.long q1), .second, .val (.long q2), .second, .val (.int p3)] [(.ref xh), (.ref xh), (.ref b0)])) (fun t k => XS.dup X8.here hx rfl (hb hby d1_30) rfl rfl k) ?_
  refine own_step (B := T8.setTop (mkF m 32 #[.val (.ref b0), .val (.long q1), .second, .val (.long q2), .second, .val (.int p3)] [(.long q1), (.ref xh), (.ref xh), (.ref b0)])) (fun t k => XS.lloadN X8.here hx rfl (hb hby d1_31) rfl k) ?_
  obtain ⟨_, _, ⟨T9, L9, k9, n9⟩, -, X9, ⟨Lc9, hQ9, l9, y9, z9⟩, st9⟩ := own_specR X8 hx hZ (y := (⟨"com/example/loomwire/loomwire/transport/MemoryBudget$Pool", "<init>", "(J)V"⟩ : MethodName)) rfl hown (hw _ (List.mem_of_getElem? (i := 102) rfl)) (hw _ (List.mem_of_getElem? (i := 103) rfl)) (hw _ (List.mem_of_getElem? (i := 104) rfl)) (by decide) (backOf (W := 2) (rm15 l Z a0 hw [] xh q1  h8 n0 Z0 E_xh g_xh F_max_xh F_used_xh) hZ (hw _ (List.mem_of_getElem? (i := 104) rfl)) (hw _ (List.mem_of_getElem? (i := 101) rfl)) (by decide) (by decide)) (g := (mkF m 32 #[.val (.ref b0), .val (.long q1), .second, .val (.long q2), .second, .val (.int p3)] [(.long q1), (.ref xh), (.ref xh), (.ref b0)])) rfl (by rw [hml]; rfl) (a := xh) (argsL := [(.long q1)]) (rest := [(.ref xh), (.ref b0)]) (lenOf pd_5 rfl) rfl (by show 2 * 0 + _ ≤ _; exact Nat.le_of_eq rfl) (hb hby d1_32) (fun _ _ => ⟨rfl, e8, (by decide : 5 + 0 ≤ _), (by decide : 24 + 0 ≤ _)⟩)
  dsimp only [Pt.U, Pt.locs, Pt.cells, Pt.slots] at X9 l9 y9 z9 st9 hQ9
  subst l9 y9 z9
  obtain ⟨rfl, N9q, K9, G0_9, G1_9⟩ := hQ9
  have N0 := Fr.app N0 N9q
  have E_b0 := E_b0.keep K9
  have F_served_b0 := F_served_b0.keep K9 (ninS ne_b0_xh nin0)
  have F_refused_b0 := F_refused_b0.keep K9 (ninS ne_b0_xh nin0)
  have F_held_b0 := F_held_b0.keep K9 (ninS ne_b0_xh nin0)
  have F_queued_b0 := F_queued_b0.keep K9 (ninS ne_b0_xh nin0)
  have F_maxConnections_b0 := F_maxConnections_b0.keep K9 (ninS ne_b0_xh nin0)
  have E_xs := E_xs.keep K9
  have E_xr := E_xr.keep K9
  have E_xh := E_xh.keep K9
  have Z0 := Nat.le_trans Z0 K9.1
  have K0 := K0.trans K9 (allS (Or.inr sz_xh) all0)
  have F_max_xh := G0_9
  have F_used_xh := G1_9
  refine own_step (B := T9.setTop (mkF m 35 #[.val (.ref b0), .val (.long q1), .second, .val (.long q2), .second, .val (.int p3)] [(.ref xh), (.ref b0)])) (fun t k => st9 t k) ?_
  obtain ⟨T10, h10, X10, e10, W10, st10⟩ := putF X9 hx hZ hown (host := "") (Or.inl (hw _ (List.mem_of_getElem? (i := 108) rfl))) Via.refl rfl F_held_b0 E_b0 (Or.inr ⟨(hw _ (List.mem_of_getElem? (i := 109) rfl)), rfl, hnm⟩) (hw _ (List.mem_of_getElem? (i := 1) rfl)) (ty := (.object "com/example/loomwire/loomwire/transport/MemoryBudget$Pool")) (by decide) rfl rfl (g := (mkF m 35 #[.val (.ref b0), .val (.long q1), .second, .val (.long q2), .second, .val (.int p3)] [(.ref xh), (.ref b0)])) rfl rfl (hb hby d1_35)
  have E_b0 := E_b0.wr W10
  have F_served_b0 := F_served_b0.other W10 (Or.inr (slot_ne (Or.inr (hw _ (List.mem_of_getElem? (i := 79) rfl))) (Or.inr (hw _ (List.mem_of_getElem? (i := 109) rfl))) (by decide) (t := (.object "java/util/Set")) (t' := (.object "com/example/loomwire/loomwire/transport/MemoryBudget$Pool")) (by decide) (by decide)))
  have F_refused_b0 := F_refused_b0.other W10 (Or.inr (slot_ne (Or.inr (hw _ (List.mem_of_getElem? (i := 98) rfl))) (Or.inr (hw _ (List.mem_of_getElem? (i := 109) rfl))) (by decide) (t := (.object "java/util/Set")) (t' := (.object "com/example/loomwire/loomwire/transport/MemoryBudget$Pool")) (by decide) (by decide)))
  have F_held_b0 := F_held_b0.same W10
  have F_queued_b0 := F_queued_b0.other W10 (Or.inr (slot_ne (Or.inr (hw _ (List.mem_of_getElem? (i := 111) rfl))) (Or.inr (hw _ (List.mem_of_getElem? (i := 109) rfl))) (by decide) (t := (.object "com/example/loomwire/loomwire/transport/MemoryBudget$Pool")) (t' := (.object "com/example/loomwire/loomwire/transport/MemoryBudget$Pool")) (by decide) (by decide)))
  have F_maxConnections_b0 := F_maxConnections_b0.other W10 (Or.inr (slot_ne (Or.inr (hw _ (List.mem_of_getElem? (i := 113) rfl))) (Or.inr (hw _ (List.mem_of_getElem? (i := 109) rfl))) (by decide) (t := .int) (t' := (.object "com/example/loomwire/loomwire/transport/MemoryBudget$Pool")) (by decide) (by decide)))
  have E_xs := E_xs.wr W10
  have E_xr := E_xr.wr W10
  have E_xh := E_xh.wr W10
  have F_max_xh := F_max_xh.other W10 (Or.inl (Ne.symm ne_b0_xh))
  have F_used_xh := F_used_xh.other W10 (Or.inl (Ne.symm ne_b0_xh))
  have Z0 := Nat.le_trans Z0 (Keep.of_wr W10).1
  have K0 := K0.wr W10 (Or.inl (List.mem_of_getElem? (i := 0) rfl))
  have N0 := Fr.snoc X10 N0 g_b0
  refine own_step (B := T10.setTop (mkF m 38 #[.val (.ref b0), .val (.long q1), .second, .val (.long q2), .second, .val (.int p3)] [])) (fun t k => st10 t k) ?_
  refine own_step (B := T10.setTop (mkF m 39 #[.val (.ref b0), .val (.long q1), .second, .val (.long q2), .second, .val (.int p3)] [(.ref b0)])) (fun t k => XS.aloadN X10.here hx rfl (hb hby d1_38) rfl rfl k) ?_
  obtain ⟨T11, h11, X11, e11, E11, A11, D11, -, st11⟩ := newO X10 hx hZ hown (hw _ (List.mem_of_getElem? (i := 99) rfl)) (hw _ (List.mem_of_getElem? (i := 100) rfl)) (hw _ (List.mem_of_getElem? (i := 101) rfl)) e10 (g := (mkF m 39 #[.val (.ref b0), .val (.long q1), .second, .val (.long q2), .second, .val (.int p3)] [(.ref b0)])) rfl (hb hby d1_39) (by decide) (by decide)
  obtain ⟨xq, g11⟩ : ∃ z, z = h10.size := ⟨_, rfl⟩
  rw [← g11] at A11 D11 st11
  have g_xq : n0 ≤ xq := Nat.le_trans Z0 (Nat.le_of_eq g11.symm)
  have sz_xq : h0.size ≤ xq := Nat.le_trans K0.1 (Nat.le_of_eq g11.symm)
  have ne_b0_xq : b0 ≠ xq := Nat.ne_of_lt (Nat.lt_of_lt_of_le E_b0.lt (Nat.le_of_eq g11.symm))
  have ne_xs_xq : xs ≠ xq := Nat.ne_of_lt (Nat.lt_of_lt_of_le E_xs.lt (Nat.le_of_eq g11.symm))
  have ne_xr_xq : xr ≠ xq := Nat.ne_of_lt (Nat.lt_of_lt_of_le E_xr.lt (Nat.le_of_eq g11.symm))
  have ne_xh_xq : xh ≠ xq := Nat.ne_of_lt (Nat.lt_of_lt_of_le E_xh.lt (Nat.le_of_eq g11.symm))
  have E_b0 := E_b0.ext E11
  have F_served_b0 := F_served_b0.ext E11
  have F_refused_b0 := F_refused_b0.ext E11
  have F_held_b0 := F_held_b0.ext E11
  have F_queued_b0 := F_queued_b0.ext E11
  have F_maxConnections_b0 := F_maxConnections_b0.ext E11
  have E_xs := E_xs.ext E11
  have E_xr := E_xr.ext E11
  have E_xh := E_xh.ext E11
  have F_max_xh := F_max_xh.ext E11
  have F_used_xh := F_used_xh.ext E11
  have Z0 := Nat.le_trans Z0 E11.1
  have K0 := K0.ext E11
  have E_xq := A11
  have F_max_xq : Fld Z h11 xq "com/example/loomwire/loomwire/transport/MemoryBudget$Pool" "max" "J" (.long (0 : Int64)) := D11 (Or.inr (hw _ (List.mem_of_getElem? (i := 107) rfl))) (ty := .long) (by decide)
  have F_used_xq : Fld Z h11 xq "com/example/loomwire/loomwire/transport/MemoryBudget$Pool" "used" "J" (.long (0 : Int64)) := D11 (Or.inl (hw _ (List.mem_of_getElem? (i := 121) rfl))) (ty := .long) (by decide)
  refine own_step (B := T11.setTop (mkF m 42 #[.val (.ref b0), .val (.long q1), .second, .val (.long q2), .second, .val (.int p3)] [(.ref xq), (.ref b0)])) (fun t k => st11 t k) ?_
  refine own_step (B := T11.setTop (mkF m 43 #[.val (.ref b0), .val (.long q1), .second, .val (.long q2), .second, .val (.int p3)] [(.ref xq), (.ref xq), (.ref b0)])) (fun t k => XS.dup X11.here hx rfl (hb hby d1_42) rfl rfl k) ?_
  refine own_step (B := T11.setTop (mkF m 44 #[.val (.ref b0), .val (.long q1), .second, .val (.long q2), .second, .val (.int p3)] [(.long q2), (.ref xq), (.ref xq), (.ref b0)])) (fun t k => XS.lloadN X11.here hx rfl (hb hby d1_43) rfl k) ?_
  obtain ⟨_, _, ⟨T12, L12, k12, n12⟩, -, X12, ⟨Lc12, hQ12, l12, y12, z12⟩, st12⟩ := own_specR X11 hx hZ (y := (⟨"com/example/loomwire/loomwire/transport/MemoryBudget$Pool", "<init>", "(J)V"⟩ : MethodName)) rfl hown (hw _ (List.mem_of_getElem? (i := 102) rfl)) (hw _ (List.mem_of_getElem? (i := 103) rfl)) (hw _ (List.mem_of_getElem? (i := 104) rfl)) (by decide) (backOf (W := 2) (rm15 l Z a0 hw [] xq q2  h11 n0 Z0 E_xq g_xq F_max_xq F_used_xq) hZ (hw _ (List.mem_of_getElem? (i := 104) rfl)) (hw _ (List.mem_of_getElem? (i := 101) rfl)) (by decide) (by decide)) (g := (mkF m 44 #[.val (.ref b0), .val (.long q1), .second, .val (.long q2), .second, .val (.int p3)] [(.long q2), (.ref xq), (.ref xq), (.ref b0)])) rfl (by rw [hml]; rfl) (a := xq) (argsL := [(.long q2)]) (rest := [(.ref xq), (.ref b0)]) (lenOf pd_5 rfl) rfl (by show 2 * 0 + _ ≤ _; exact Nat.le_of_eq rfl) (hb hby d1_44) (fun _ _ => ⟨rfl, e11, (by decide : 6 + 0 ≤ _), (by decide : 26 + 0 ≤ _)⟩)
  dsimp only [Pt.U, Pt.locs, Pt.cells, Pt.slots] at X12 l12 y12 z12 st12 hQ12
  subst l12 y12 z12
  obtain ⟨rfl, N12q, K12, G0_12, G1_12⟩ := hQ12
  have N0 := Fr.app N0 N12q
  have E_b0 := E_b0.keep K12
  have F_served_b0 := F_served_b0.keep K12 (ninS ne_b0_xq nin0)
  have F_refused_b0 := F_refused_b0.keep K12 (ninS ne_b0_xq nin0)
  have F_held_b0 := F_held_b0.keep K12 (ninS ne_b0_xq nin0)
  have F_queued_b0 := F_queued_b0.keep K12 (ninS ne_b0_xq nin0)
  have F_maxConnections_b0 := F_maxConnections_b0.keep K12 (ninS ne_b0_xq nin0)
  have E_xs := E_xs.keep K12
  have E_xr := E_xr.keep K12
  have E_xh := E_xh.keep K12
  have F_max_xh := F_max_xh.keep K12 (ninS ne_xh_xq nin0)
  have F_used_xh := F_used_xh.keep K12 (ninS ne_xh_xq nin0)
  have E_xq := E_xq.keep K12
  have Z0 := Nat.le_trans Z0 K12.1
  have K0 := K0.trans K12 (allS (Or.inr sz_xq) all0)
  have F_max_xq := G0_12
  have F_used_xq := G1_12
  refine own_step (B := T12.setTop (mkF m 47 #[.val (.ref b0), .val (.long q1), .second, .val (.long q2), .second, .val (.int p3)] [(.ref xq), (.ref b0)])) (fun t k => st12 t k) ?_
  obtain ⟨T13, h13, X13, e13, W13, st13⟩ := putF X12 hx hZ hown (host := "") (Or.inl (hw _ (List.mem_of_getElem? (i := 110) rfl))) Via.refl rfl F_queued_b0 E_b0 (Or.inr ⟨(hw _ (List.mem_of_getElem? (i := 111) rfl)), rfl, hnm⟩) (hw _ (List.mem_of_getElem? (i := 1) rfl)) (ty := (.object "com/example/loomwire/loomwire/transport/MemoryBudget$Pool")) (by decide) rfl rfl (g := (mkF m 47 #[.val (.ref b0), .val (.long q1), .second, .val (.long q2), .second, .val (.int p3)] [(.ref xq), (.ref b0)])) rfl rfl (hb hby d1_47)
  have E_b0 := E_b0.wr W13
  have F_served_b0 := F_served_b0.other W13 (Or.inr (slot_ne (Or.inr (hw _ (List.mem_of_getElem? (i := 79) rfl))) (Or.inr (hw _ (List.mem_of_getElem? (i := 111) rfl))) (by decide) (t := (.object "java/util/Set")) (t' := (.object "com/example/loomwire/loomwire/transport/MemoryBudget$Pool")) (by decide) (by decide)))
  have F_refused_b0 := F_refused_b0.other W13 (Or.inr (slot_ne (Or.inr (hw _ (List.mem_of_getElem? (i := 98) rfl))) (Or.inr (hw _ (List.mem_of_getElem? (i := 111) rfl))) (by decide) (t := (.object "java/util/Set")) (t' := (.object "com/example/loomwire/loomwire/transport/MemoryBudget$Pool")) (by decide) (by decide)))
  have F_held_b0 := F_held_b0.other W13 (Or.inr (slot_ne (Or.inr (hw _ (List.mem_of_getElem? (i := 109) rfl))) (Or.inr (hw _ (List.mem_of_getElem? (i := 111) rfl))) (by decide) (t := (.object "com/example/loomwire/loomwire/transport/MemoryBudget$Pool")) (t' := (.object "com/example/loomwire/loomwire/transport/MemoryBudget$Pool")) (by decide) (by decide)))
  have F_queued_b0 := F_queued_b0.same W13
  have F_maxConnections_b0 := F_maxConnections_b0.other W13 (Or.inr (slot_ne (Or.inr (hw _ (List.mem_of_getElem? (i := 113) rfl))) (Or.inr (hw _ (List.mem_of_getElem? (i := 111) rfl))) (by decide) (t := .int) (t' := (.object "com/example/loomwire/loomwire/transport/MemoryBudget$Pool")) (by decide) (by decide)))
  have E_xs := E_xs.wr W13
  have E_xr := E_xr.wr W13
  have E_xh := E_xh.wr W13
  have F_max_xh := F_max_xh.other W13 (Or.inl (Ne.symm ne_b0_xh))
  have F_used_xh := F_used_xh.other W13 (Or.inl (Ne.symm ne_b0_xh))
  have E_xq := E_xq.wr W13
  have F_max_xq := F_max_xq.other W13 (Or.inl (Ne.symm ne_b0_xq))
  have F_used_xq := F_used_xq.other W13 (Or.inl (Ne.symm ne_b0_xq))
  have Z0 := Nat.le_trans Z0 (Keep.of_wr W13).1
  have K0 := K0.wr W13 (Or.inl (List.mem_of_getElem? (i := 0) rfl))
  have N0 := Fr.snoc X13 N0 g_b0
  refine own_step (B := T13.setTop (mkF m 50 #[.val (.ref b0), .val (.long q1), .second, .val (.long q2), .second, .val (.int p3)] [])) (fun t k => st13 t k) ?_
  refine own_step (B := T13.setTop (mkF m 51 #[.val (.ref b0), .val (.long q1), .second, .val (.long q2), .second, .val (.int p3)] [(.ref b0)])) (fun t k => XS.aloadN X13.here hx rfl (hb hby d1_50) rfl rfl k) ?_
  refine own_step (B := T13.setTop (mkF m 53 #[.val (.ref b0), .val (.long q1), .second, .val (.long q2), .second, .val (.int p3)] [(.int p3), (.ref b0)])) (fun t k => XS.iload X13.here hx rfl (hb hby d1_51) rfl k) ?_
  obtain ⟨T14, h14, X14, e14, W14, st14⟩ := putF X13 hx hZ hown (host := "") (Or.inl (hw _ (List.mem_of_getElem? (i := 112) rfl))) Via.refl e13 F_maxConnections_b0 E_b0 (Or.inr ⟨(hw _ (List.mem_of_getElem? (i := 113) rfl)), rfl, hnm⟩) (hw _ (List.mem_of_getElem? (i := 1) rfl)) (ty := .int) (by decide) rfl rfl (g := (mkF m 53 #[.val (.ref b0), .val (.long q1), .second, .val (.long q2), .second, .val (.int p3)] [(.int p3), (.ref b0)])) rfl rfl (hb hby d1_53)
  have E_b0 := E_b0.wr W14
  have F_served_b0 := F_served_b0.other W14 (Or.inr (slot_ne (Or.inr (hw _ (List.mem_of_getElem? (i := 79) rfl))) (Or.inr (hw _ (List.mem_of_getElem? (i := 113) rfl))) (by decide) (t := (.object "java/util/Set")) (t' := .int) (by decide) (by decide)))
  have F_refused_b0 := F_refused_b0.other W14 (Or.inr (slot_ne (Or.inr (hw _ (List.mem_of_getElem? (i := 98) rfl))) (Or.inr (hw _ (List.mem_of_getElem? (i := 113) rfl))) (by decide) (t := (.object "java/util/Set")) (t' := .int) (by decide) (by decide)))
  have F_held_b0 := F_held_b0.other W14 (Or.inr (slot_ne (Or.inr (hw _ (List.mem_of_getElem? (i := 109) rfl))) (Or.inr (hw _ (List.mem_of_getElem? (i := 113) rfl))) (by decide) (t := (.object "com/example/loomwire/loomwire/transport/MemoryBudget$Pool")) (t' := .int) (by decide) (by decide)))
  have F_queued_b0 := F_queued_b0.other W14 (Or.inr (slot_ne (Or.inr (hw _ (List.mem_of_getElem? (i := 111) rfl))) (Or.inr (hw _ (List.mem_of_getElem? (i := 113) rfl))) (by decide) (t := (.object "com/example/loomwire/loomwire/transport/MemoryBudget$Pool")) (t' := .int) (by decide) (by decide)))
  have F_maxConnections_b0 := F_maxConnections_b0.same W14
  have E_xs := E_xs.wr W14
  have E_xr := E_xr.wr W14
  have E_xh := E_xh.wr W14
  have F_max_xh := F_max_xh.other W14 (Or.inl (Ne.symm ne_b0_xh))
  have F_used_xh := F_used_xh.other W14 (Or.inl (Ne.symm ne_b0_xh))
  have E_xq := E_xq.wr W14
  have F_max_xq := F_max_xq.other W14 (Or.inl (Ne.symm ne_b0_xq))
  have F_used_xq := F_used_xq.other W14 (Or.inl (Ne.symm ne_b0_xq))
  have Z0 := Nat.le_trans Z0 (Keep.of_wr W14).1
  have K0 := K0.wr W14 (Or.inl (List.mem_of_getElem? (i := 0) rfl))
  have N0 := Fr.snoc X14 N0 g_b0
  refine own_step (B := T14.setTop (mkF m 56 #[.val (.ref b0), .val (.long q1), .second, .val (.long q2), .second, .val (.int p3)] [])) (fun t k => st14 t k) ?_
  exact own_retV X14 hx hlk Bd.returns (hb hby d1_56) (by decide) (by decide) (by rw [e14]; exact ⟨_, _, rfl, N0, K0, g_xh, g_xq, ne_xh_xq, ne_b0_xh, ne_b0_xq, F_held_b0, F_queued_b0, E_xh, E_xq, F_max_xh, F_used_xh, F_max_xq, F_used_xq⟩)
theorem d16_0 : decode prog_99_method_12_code 0 = .ok (.aload_n 0, 1) := by decide +kernel
theorem d16_1 : decode prog_99_method_12_code 1 = .ok (.getfield 31, 3) := by decide +kernel
theorem d16_4 : decode prog_99_method_12_code 4 = .ok (.getfield 93, 3) := by decide +kernel
theorem d16_7 : decode prog_99_method_12_code 7 = .ok (.aload_n 0, 1) := by decide +kernel
theorem d16_8 : decode prog_99_method_12_code 8 = .ok (.getfield 31, 3) := by decide +kernel
theorem d16_11 : decode prog_99_method_12_code 11 = .ok (.getfield 97, 3) := by decide +kernel
theorem d16_14 : decode prog_99_method_12_code 14 = .ok (.lsub, 1) := by decide +kernel
theorem d16_15 : decode prog_99_method_12_code 15 = .ok (.lreturn, 1) := by decide +kernel
theorem ef_rm16 (m : MethodId) (x0 : Addr) : entryFrame m #[(.ref x0)] 1 = mkF m 0 #[.val (.ref x0)] [] := by first | (simp [entryFrame, mkF, argsToLocals, Value.category]; done) | rfl
def QQ_rm16 (Z : State) (b0 : Addr) (pq : Addr) (x y : Int64) (h0 : Heap) (n0 : Nat) (v : Option Value) (h : Heap) (L : List Loc) : Prop := v = some (.long (x - y)) ∧ Fr n0 L ∧ h = h0
set_option maxRecDepth 65536 in
set_option maxHeartbeats 40000000 in
theorem rm16 (l : Launch) (Z : State) (a0 : Array Value) (hw : ∀ d ∈ tables_1, d.before a0 Z = true) (ws : List Jvm.Cond) (b0 : Addr) (pq : Addr) (x y : Int64) (h0 : Heap) (n0 : Nat) (Z0 : n0 ≤ h0.size) (F_queued_b0 : Fld Z h0 b0 "com/example/loomwire/loomwire/transport/MemoryBudget" "queued" "Lcom/example/loomwire/loomwire/transport/MemoryBudget$Pool;" (.ref pq)) (F_max_pq : Fld Z h0 pq "com/example/loomwire/loomwire/transport/MemoryBudget$Pool" "max" "J" (.long x)) (F_used_pq : Fld Z h0 pq "com/example/loomwire/loomwire/transport/MemoryBudget$Pool" "used" "J" (.long y)) :
    MetFree l (⟨"com/example/loomwire/loomwire/transport/MemoryBudget", "queuedRoom", "()J"⟩ : MethodName) (head1 (Jvm.Cond.code (⟨"com/example/loomwire/loomwire/transport/MemoryBudget", "queuedRoom", "()J"⟩ : MethodName) prog_99_method_12_code 1 (some .long) :: ws) ({ frames := 0, cells := 0, slots := 0, locals := 0 } : Room)) (fun a U => a = #[(.ref b0)] ∧ Z.Warmed39 U.vm ∧ U.heap = h0) (fun _ _ _ _ _ => True) (fun _ U o U' => ∃ v L, o = .returned v ∧ (QQ_rm16 Z b0 pq x y h0 n0) v U'.heap L ∧ FrameEnd U o U' L ({ frames := 0, cells := 0, slots := 0, locals := 0 } : Room).cells ({ frames := 0, cells := 0, slots := 0, locals := 0 } : Room).slots) := by
  refine MetFree.of_bodySF (plainFor_of_name pn_com_example_loomwire_loomwire_transport_MemoryBudget) hisR ?_
  intro p e s m args below meth c s₁ Bd hml0 hP hK
  obtain ⟨rfl, hZ, hh⟩ := hP
  have hx := Bd.exec
  have hby := Bd.bytes
  have hlk : meth.locks = false := BodyLoose.notSynchronized Bd
  have hml : c.maxLocals = 1 := hml0
  have hown : s.vm.findClass "com/example/loomwire/loomwire/transport/MemoryBudget" = some m.cls := findClass_of_methodNamed Bd.named
  have hnm := (name_of_methodNamed Bd.named Bd.method).1
  have X0 : Stand p l e ({ frames := 0, cells := 0, slots := 0, locals := 0 } : Room) s m #[(.ref b0)] below meth c s₁ [] 0 0 := Stand.of_body Bd
  have e0 : s₁.heap = h0 := by rw [← hh, Bd.state]; rfl
  have N0 := Fr.nil n0
  show own_G p.tables e below s (QQ_rm16 Z b0 pq x y h0 n0) ({ frames := 0, cells := 0, slots := 0, locals := 0 } : Room).cells ({ frames := 0, cells := 0, slots := 0, locals := 0 } : Room).slots (s₁.setTop (entryFrame m #[(.ref b0)] 1))
  refine own_step (B := s₁.setTop (mkF m 0 #[.val (.ref b0)] [])) (fun t k => castTop (ef_rm16 m b0) k) ?_
  refine own_step (B := s₁.setTop (mkF m 1 #[.val (.ref b0)] [(.ref b0)])) (fun t k => XS.aloadN X0.here hx rfl (hb hby d16_0) rfl rfl k) ?_
  obtain ⟨T1, X1, e1, st1⟩ := getF X0 hx hZ hown (host := "") (Or.inl (hw _ (List.mem_of_getElem? (i := 110) rfl))) Via.refl e0 F_queued_b0 (g := (mkF m 1 #[.val (.ref b0)] [(.ref b0)])) rfl rfl (hb hby d16_1)
  refine own_step (B := T1.setTop (mkF m 4 #[.val (.ref b0)] [(.ref pq)])) (fun t k => st1 t k) ?_
  refine own_step (B := T1.setTop (mkF m 7 #[.val (.ref b0)] [(.long x)])) (fun t k => own_getR X1 hx hZ hown (hw _ (List.mem_of_getElem? (i := 119) rfl)) e1 F_max_pq (g := (mkF m 4 #[.val (.ref b0)] [(.ref pq)])) rfl rfl (hb hby d16_4) t k) ?_
  refine own_step (B := T1.setTop (mkF m 8 #[.val (.ref b0)] [(.ref b0), (.long x)])) (fun t k => XS.aloadN X1.here hx rfl (hb hby d16_7) rfl rfl k) ?_
  obtain ⟨T2, X2, e2, st2⟩ := getF X1 hx hZ hown (host := "") (Or.inl (hw _ (List.mem_of_getElem? (i := 110) rfl))) Via.refl e1 F_queued_b0 (g := (mkF m 8 #[.val (.ref b0)] [(.ref b0), (.long x)])) rfl rfl (hb hby d16_8)
  refine own_step (B := T2.setTop (mkF m 11 #[.val (.ref b0)] [(.ref pq), (.long x)])) (fun t k => st2 t k) ?_
  refine own_step (B := T2.setTop (mkF m 14 #[.val (.ref b0)] [(.long y), (.long x)])) (fun t k => own_getR X2 hx hZ hown (hw _ (List.mem_of_getElem? (i := 120) rfl)) e2 F_used_pq (g := (mkF m 11 #[.val (.ref b0)] [(.ref pq), (.long x)])) rfl rfl (hb hby d16_11) t k) ?_
  refine own_step (B := T2.setTop (mkF m 15 #[.val (.ref b0)] [(.long (x - y))])) (fun t k => XS.lsub X2.here hx rfl (hb hby d16_14) rfl k) ?_
  exact own_retJ X2 hx hlk Bd.returns (hb hby d16_15) (by decide) (by decide) (by exact ⟨rfl, N0, e2⟩)
theorem d17_0 : decode prog_99_method_7_code 0 = .ok (.new 64, 3) := by decide +kernel
theorem d17_3 : decode prog_99_method_7_code 3 = .ok (.dup, 1) := by decide +kernel
theorem d17_4 : decode prog_99_method_7_code 4 = .ok (.aload_n 0, 1) := by decide +kernel
theorem d17_5 : decode prog_99_method_7_code 5 = .ok (.getfield 31, 3) := by decide +kernel
theorem d17_8 : decode prog_99_method_7_code 8 = .ok (.invokespecial 66, 3) := by decide +kernel
theorem d17_11 : decode prog_99_method_7_code 11 = .ok (.areturn, 1) := by decide +kernel
theorem ef_rm17 (m : MethodId) (x0 : Addr) : entryFrame m #[(.ref x0)] 1 = mkF m 0 #[.val (.ref x0)] [] := by first | (simp [entryFrame, mkF, argsToLocals, Value.category]; done) | rfl
def QQ_rm17 (Z : State) (b0 : Addr) (po : Addr) (h0 : Heap) (n0 : Nat) (v : Option Value) (h : Heap) (L : List Loc) : Prop := ∃ a : Addr, v = some (.ref a) ∧ Fr n0 L ∧ Keep h0 h [] ∧ n0 ≤ a ∧ h0.size ≤ a ∧ Exa Z h a "com/example/loomwire/loomwire/transport/MemoryBudget$Account" ∧ Fld Z h a "com/example/loomwire/loomwire/transport/MemoryBudget$Account" "pool" "Lcom/example/loomwire/loomwire/transport/MemoryBudget$Pool;" (.ref po) ∧ Fld Z h a "com/example/loomwire/loomwire/transport/MemoryBudget$Account" "taken" "J" (.long (0 : Int64)) ∧ Fld Z h a "com/example/loomwire/loomwire/transport/MemoryBudget$Account" "closed" "Z" (.int (0 : Int32))
set_option maxRecDepth 65536 in
set_option maxHeartbeats 40000000 in
theorem rm17 (l : Launch) (Z : State) (a0 : Array Value) (hw : ∀ d ∈ tables_1, d.before a0 Z = true) (ws : List Jvm.Cond) (b0 : Addr) (po : Addr) (h0 : Heap) (n0 : Nat) (Z0 : n0 ≤ h0.size) (F_queued_b0 : Fld Z h0 b0 "com/example/loomwire/loomwire/transport/MemoryBudget" "queued" "Lcom/example/loomwire/loomwire/transport/MemoryBudget$Pool;" (.ref po)) :
    MetFree l (⟨"com/example/loomwire/loomwire/transport/MemoryBudget", "queuedAccount", "()Lcom/example/loomwire/loomwire/transport/MemoryBudget$Account;"⟩ : MethodName) (head1 (Jvm.Cond.code (⟨"com/example/loomwire/loomwire/transport/MemoryBudget", "queuedAccount", "()Lcom/example/loomwire/loomwire/transport/MemoryBudget$Account;"⟩ : MethodName) prog_99_method_7_code 1 (some (.object "com/example/loomwire/loomwire/transport/MemoryBudget$Account")) :: ws) ({ frames := 2, cells := 1, slots := 3, locals := 26 } : Room)) (fun a U => a = #[(.ref b0)] ∧ Z.Warmed39 U.vm ∧ U.heap = h0) (fun _ _ _ _ _ => True) (fun _ U o U' => ∃ v L, o = .returned v ∧ (QQ_rm17 Z b0 po h0 n0) v U'.heap L ∧ FrameEnd U o U' L ({ frames := 2, cells := 1, slots := 3, locals := 26 } : Room).cells ({ frames := 2, cells := 1, slots := 3, locals := 26 } : Room).slots) := by
  refine MetFree.of_bodySF (plainFor_of_name pn_com_example_loomwire_loomwire_transport_MemoryBudget) hisR ?_
  intro p e s m args below meth c s₁ Bd hml0 hP hK
  obtain ⟨rfl, hZ, hh⟩ := hP
  have hx := Bd.exec
  have hby := Bd.bytes
  have hlk : meth.locks = false := BodyLoose.notSynchronized Bd
  have hml : c.maxLocals = 1 := hml0
  have hown : s.vm.findClass "com/example/loomwire/loomwire/transport/MemoryBudget" = some m.cls := findClass_of_methodNamed Bd.named
  have hnm := (name_of_methodNamed Bd.named Bd.method).1
  have X0 : Stand p l e ({ frames := 2, cells := 1, slots := 3, locals := 26 } : Room) s m #[(.ref b0)] below meth c s₁ [] 0 0 := Stand.of_body Bd
  have e0 : s₁.heap = h0 := by rw [← hh, Bd.state]; rfl
  have N0 := Fr.nil n0
  show own_G p.tables e below s (QQ_rm17 Z b0 po h0 n0) ({ frames := 2, cells := 1, slots := 3, locals := 26 } : Room).cells ({ frames := 2, cells := 1, slots := 3, locals := 26 } : Room).slots (s₁.setTop (entryFrame m #[(.ref b0)] 1))
  refine own_step (B := s₁.setTop (mkF m 0 #[.val (.ref b0)] [])) (fun t k => castTop (ef_rm17 m b0) k) ?_
  have K0 := Keep.refl h0 []
  obtain ⟨T1, h1, X1, e1, E1, A1, D1, -, st1⟩ := newO X0 hx hZ hown (hw _ (List.mem_of_getElem? (i := 127) rfl)) (hw _ (List.mem_of_getElem? (i := 128) rfl)) (hw _ (List.mem_of_getElem? (i := 129) rfl)) e0 (g := (mkF m 0 #[.val (.ref b0)] [])) rfl (hb hby d17_0) (by decide) (by decide)
  obtain ⟨ac, g1⟩ : ∃ z, z = h0.size := ⟨_, rfl⟩
  rw [← g1] at A1 D1 st1
  have g_ac : n0 ≤ ac := Nat.le_trans Z0 (Nat.le_of_eq g1.symm)
  have sz_ac : h0.size ≤ ac := Nat.le_trans K0.1 (Nat.le_of_eq g1.symm)
  have ne_b0_ac : b0 ≠ ac := Nat.ne_of_lt (Nat.lt_of_lt_of_le F_queued_b0.lt (Nat.le_of_eq g1.symm))
  have F_queued_b0 := F_queued_b0.ext E1
  have Z0 := Nat.le_trans Z0 E1.1
  have K0 := K0.ext E1
  have E_ac := A1
  have F_pool_ac : Fld Z h1 ac "com/example/loomwire/loomwire/transport/MemoryBudget$Account" "pool" "Lcom/example/loomwire/loomwire/transport/MemoryBudget$Pool;" .null := D1 (Or.inr (hw _ (List.mem_of_getElem? (i := 135) rfl))) (ty := (.object "com/example/loomwire/loomwire/transport/MemoryBudget$Pool")) (by decide)
  have F_closed_ac : Fld Z h1 ac "com/example/loomwire/loomwire/transport/MemoryBudget$Account" "closed" "Z" (.int (0 : Int32)) := D1 (Or.inl (hw _ (List.mem_of_getElem? (i := 142) rfl))) (ty := .boolean) (by decide)
  have F_taken_ac : Fld Z h1 ac "com/example/loomwire/loomwire/transport/MemoryBudget$Account" "taken" "J" (.long (0 : Int64)) := D1 (Or.inl (hw _ (List.mem_of_getElem? (i := 145) rfl))) (ty := .long) (by decide)
  refine own_step (B := T1.setTop (mkF m 3 #[.val (.ref b0)] [(.ref ac)])) (fun t k => st1 t k) ?_
  refine own_step (B := T1.setTop (mkF m 4 #[.val (.ref b0)] [(.ref ac), (.ref ac)])) (fun t k => XS.dup X1.here hx rfl (hb hby d17_3) rfl rfl k) ?_
  refine own_step (B := T1.setTop (mkF m 5 #[.val (.ref b0)] [(.ref b0), (.ref ac), (.ref ac)])) (fun t k => XS.aloadN X1.here hx rfl (hb hby d17_4) rfl rfl k) ?_
  obtain ⟨T2, X2, e2, st2⟩ := getF X1 hx hZ hown (host := "") (Or.inl (hw _ (List.mem_of_getElem? (i := 110) rfl))) Via.refl e1 F_queued_b0 (g := (mkF m 5 #[.val (.ref b0)] [(.ref b0), (.ref ac), (.ref ac)])) rfl rfl (hb hby d17_5)
  refine own_step (B := T2.setTop (mkF m 8 #[.val (.ref b0)] [(.ref po), (.ref ac), (.ref ac)])) (fun t k => st2 t k) ?_
  obtain ⟨_, _, ⟨T3, L3, k3, n3⟩, -, X3, ⟨Lc3, hQ3, l3, y3, z3⟩, st3⟩ := own_specR X2 hx hZ (y := (⟨"com/example/loomwire/loomwire/transport/MemoryBudget$Account", "<init>", "(Lcom/example/loomwire/loomwire/transport/MemoryBudget$Pool;)V"⟩ : MethodName)) rfl hown (hw _ (List.mem_of_getElem? (i := 130) rfl)) (hw _ (List.mem_of_getElem? (i := 131) rfl)) (hw _ (List.mem_of_getElem? (i := 132) rfl)) (by decide) (backOf (W := 1) (rm18 l Z a0 hw [] ac po  h1 n0 Z0 E_ac g_ac F_pool_ac F_taken_ac F_closed_ac) hZ (hw _ (List.mem_of_getElem? (i := 132) rfl)) (hw _ (List.mem_of_getElem? (i := 129) rfl)) (by decide) (by decide)) (g := (mkF m 8 #[.val (.ref b0)] [(.ref po), (.ref ac), (.ref ac)])) rfl (by rw [hml]; rfl) (a := ac) (argsL := [(.ref po)]) (rest := [(.ref ac)]) (lenOf pd_6 rfl) rfl (by show 2 * 0 + _ ≤ _; exact Nat.le_of_eq rfl) (hb hby d17_8) (fun _ _ => ⟨rfl, e2, (by decide : 1 + 0 ≤ _), (by decide : 3 + 0 ≤ _)⟩)
  dsimp only [Pt.U, Pt.locs, Pt.cells, Pt.slots] at X3 l3 y3 z3 st3 hQ3
  subst l3 y3 z3
  obtain ⟨rfl, N3q, K3, G0_3, G1_3, G2_3⟩ := hQ3
  have N0 := Fr.app N0 N3q
  have F_queued_b0 := F_queued_b0.keep K3 (ninS ne_b0_ac nin0)
  have E_ac := E_ac.keep K3
  have Z0 := Nat.le_trans Z0 K3.1
  have K0 := K0.trans K3 (allS (Or.inr sz_ac) all0)
  have F_pool_ac := G0_3
  have F_taken_ac := G1_3
  have F_closed_ac := G2_3
  refine own_step (B := T3.setTop (mkF m 11 #[.val (.ref b0)] [(.ref ac)])) (fun t k => st3 t k) ?_
  exact own_retA X3 hx hlk Bd.returns (hb hby d17_11) rfl (by decide) (by decide) (by exact ⟨_, rfl, N0, K0, g_ac, sz_ac, E_ac, F_pool_ac, F_taken_ac, F_closed_ac⟩)
theorem d20_0 : decode prog_99_method_6_code 0 = .ok (.new 64, 3) := by decide +kernel
theorem d20_3 : decode prog_99_method_6_code 3 = .ok (.dup, 1) := by decide +kernel
theorem d20_4 : decode prog_99_method_6_code 4 = .ok (.aload_n 0, 1) := by decide +kernel
theorem d20_5 : decode prog_99_method_6_code 5 = .ok (.getfield 27, 3) := by decide +kernel
theorem d20_8 : decode prog_99_method_6_code 8 = .ok (.invokespecial 66, 3) := by decide +kernel
theorem d20_11 : decode prog_99_method_6_code 11 = .ok (.areturn, 1) := by decide +kernel
theorem ef_rm20 (m : MethodId) (x0 : Addr) : entryFrame m #[(.ref x0)] 1 = mkF m 0 #[.val (.ref x0)] [] := by first | (simp [entryFrame, mkF, argsToLocals, Value.category]; done) | rfl
def QQ_rm20 (Z : State) (b0 : Addr) (po : Addr) (h0 : Heap) (n0 : Nat) (v : Option Value) (h : Heap) (L : List Loc) : Prop := ∃ a : Addr, v = some (.ref a) ∧ Fr n0 L ∧ Keep h0 h [] ∧ n0 ≤ a ∧ h0.size ≤ a ∧ Exa Z h a "com/example/loomwire/loomwire/transport/MemoryBudget$Account" ∧ Fld Z h a "com/example/loomwire/loomwire/transport/MemoryBudget$Account" "pool" "Lcom/example/loomwire/loomwire/transport/MemoryBudget$Pool;" (.ref po) ∧ Fld Z h a "com/example/loomwire/loomwire/transport/MemoryBudget$Account" "taken" "J" (.long (0 : Int64)) ∧ Fld Z h a "com/example/loomwire/loomwire/transport/MemoryBudget$Account" "closed" "Z" (.int (0 : Int32))
set_option maxRecDepth 65536 in
set_option maxHeartbeats 40000000 in
theorem rm20 (l : Launch) (Z : State) (a0 : Array Value) (hw : ∀ d ∈ tables_1, d.before a0 Z = true) (ws : List Jvm.Cond) (b0 : Addr) (po : Addr) (h0 : Heap) (n0 : Nat) (Z0 : n0 ≤ h0.size) (F_held_b0 : Fld Z h0 b0 "com/example/loomwire/loomwire/transport/MemoryBudget" "held" "Lcom/example/loomwire/loomwire/transport/MemoryBudget$Pool;" (.ref po)) :
    MetFree l (⟨"com/example/loomwire/loomwire/transport/MemoryBudget", "heldAccount", "()Lcom/example/loomwire/loomwire/transport/MemoryBudget$Account;"⟩ : MethodName) (head1 (Jvm.Cond.code (⟨"com/example/loomwire/loomwire/transport/MemoryBudget", "heldAccount", "()Lcom/example/loomwire/loomwire/transport/MemoryBudget$Account;"⟩ : MethodName) prog_99_method_6_code 1 (some (.object "com/example/loomwire/loomwire/transport/MemoryBudget$Account")) :: ws) ({ frames := 2, cells := 1, slots := 3, locals := 26 } : Room)) (fun a U => a = #[(.ref b0)] ∧ Z.Warmed39 U.vm ∧ U.heap = h0) (fun _ _ _ _ _ => True) (fun _ U o U' => ∃ v L, o = .returned v ∧ (QQ_rm20 Z b0 po h0 n0) v U'.heap L ∧ FrameEnd U o U' L ({ frames := 2, cells := 1, slots := 3, locals := 26 } : Room).cells ({ frames := 2, cells := 1, slots := 3, locals := 26 } : Room).slots) := by
  refine MetFree.of_bodySF (plainFor_of_name pn_com_example_loomwire_loomwire_transport_MemoryBudget) hisR ?_
  intro p e s m args below meth c s₁ Bd hml0 hP hK
  obtain ⟨rfl, hZ, hh⟩ := hP
  have hx := Bd.exec
  have hby := Bd.bytes
  have hlk : meth.locks = false := BodyLoose.notSynchronized Bd
  have hml : c.maxLocals = 1 := hml0
  have hown : s.vm.findClass "com/example/loomwire/loomwire/transport/MemoryBudget" = some m.cls := findClass_of_methodNamed Bd.named
  have hnm := (name_of_methodNamed Bd.named Bd.method).1
  have X0 : Stand p l e ({ frames := 2, cells := 1, slots := 3, locals := 26 } : Room) s m #[(.ref b0)] below meth c s₁ [] 0 0 := Stand.of_body Bd
  have e0 : s₁.heap = h0 := by rw [← hh, Bd.state]; rfl
  have N0 := Fr.nil n0
  show own_G p.tables e below s (QQ_rm20 Z b0 po h0 n0) ({ frames := 2, cells := 1, slots := 3, locals := 26 } : Room).cells ({ frames := 2, cells := 1, slots := 3, locals := 26 } : Room).slots (s₁.setTop (entryFrame m #[(.ref b0)] 1))
  refine own_step (B := s₁.setTop (mkF m 0 #[.val (.ref b0)] [])) (fun t k => castTop (ef_rm20 m b0) k) ?_
  have K0 := Keep.refl h0 []
  obtain ⟨T1, h1, X1, e1, E1, A1, D1, -, st1⟩ := newO X0 hx hZ hown (hw _ (List.mem_of_getElem? (i := 127) rfl)) (hw _ (List.mem_of_getElem? (i := 128) rfl)) (hw _ (List.mem_of_getElem? (i := 129) rfl)) e0 (g := (mkF m 0 #[.val (.ref b0)] [])) rfl (hb hby d20_0) (by decide) (by decide)
  obtain ⟨ac, g1⟩ : ∃ z, z = h0.size := ⟨_, rfl⟩
  rw [← g1] at A1 D1 st1
  have g_ac : n0 ≤ ac := Nat.le_trans Z0 (Nat.le_of_eq g1.symm)
  have sz_ac : h0.size ≤ ac := Nat.le_trans K0.1 (Nat.le_of_eq g1.symm)
  have ne_b0_ac : b0 ≠ ac := Nat.ne_of_lt (Nat.lt_of_lt_of_le F_held_b0.lt (Nat.le_of_eq g1.symm))
  have F_held_b0 := F_held_b0.ext E1
  have Z0 := Nat.le_trans Z0 E1.1
  have K0 := K0.ext E1
  have E_ac := A1
  have F_pool_ac : Fld Z h1 ac "com/example/loomwire/loomwire/transport/MemoryBudget$Account" "pool" "Lcom/example/loomwire/loomwire/transport/MemoryBudget$Pool;" .null := D1 (Or.inr (hw _ (List.mem_of_getElem? (i := 135) rfl))) (ty := (.object "com/example/loomwire/loomwire/transport/MemoryBudget$Pool")) (by decide)
  have F_closed_ac : Fld Z h1 ac "com/example/loomwire/loomwire/transport/MemoryBudget$Account" "closed" "Z" (.int (0 : Int32)) := D1 (Or.inl (hw _ (List.mem_of_getElem? (i := 142) rfl))) (ty := .boolean) (by decide)
  have F_taken_ac : Fld Z h1 ac "com/example/loomwire/loomwire/transport/MemoryBudget$Account" "taken" "J" (.long (0 : Int64)) := D1 (Or.inl (hw _ (List.mem_of_getElem? (i := 145) rfl))) (ty := .long) (by decide)
  refine own_step (B := T1.setTop (mkF m 3 #[.val (.ref b0)] [(.ref ac)])) (fun t k => st1 t k) ?_
  refine own_step (B := T1.setTop (mkF m 4 #[.val (.ref b0)] [(.ref ac), (.ref ac)])) (fun t k => XS.dup X1.here hx rfl (hb hby d20_3) rfl rfl k) ?_
  refine own_step (B := T1.setTop (mkF m 5 #[.val (.ref b0)] [(.ref b0), (.ref ac), (.ref ac)])) (fun t k => XS.aloadN X1.here hx rfl (hb hby d20_4) rfl rfl k) ?_
  obtain ⟨T2, X2, e2, st2⟩ := getF X1 hx hZ hown (host := "") (Or.inl (hw _ (List.mem_of_getElem? (i := 108) rfl))) Via.refl e1 F_held_b0 (g := (mkF m 5 #[.val (.ref b0)] [(.ref b0), (.ref ac), (.ref ac)])) rfl rfl (hb hby d20_5)
  refine own_step (B := T2.setTop (mkF m 8 #[.val (.ref b0)] [(.ref po), (.ref ac), (.ref ac)])) (fun t k => st2 t k) ?_
  obtain ⟨_, _, ⟨T3, L3, k3, n3⟩, -, X3, ⟨Lc3, hQ3, l3, y3, z3⟩, st3⟩ := own_specR X2 hx hZ (y := (⟨"com/example/loomwire/loomwire/transport/MemoryBudget$Account", "<init>", "(Lcom/example/loomwire/loomwire/transport/MemoryBudget$Pool;)V"⟩ : MethodName)) rfl hown (hw _ (List.mem_of_getElem? (i := 130) rfl)) (hw _ (List.mem_of_getElem? (i := 131) rfl)) (hw _ (List.mem_of_getElem? (i := 132) rfl)) (by decide) (backOf (W := 1) (rm18 l Z a0 hw [] ac po  h1 n0 Z0 E_ac g_ac F_pool_ac F_taken_ac F_closed_ac) hZ (hw _ (List.mem_of_getElem? (i := 132) rfl)) (hw _ (List.mem_of_getElem? (i := 129) rfl)) (by decide) (by decide)) (g := (mkF m 8 #[.val (.ref b0)] [(.ref po), (.ref ac), (.ref ac)])) rfl (by rw [hml]; rfl) (a := ac) (argsL := [(.ref po)]) (rest := [(.ref ac)]) (lenOf pd_6 rfl) rfl (by show 2 * 0 + _ ≤ _; exact Nat.le_of_eq rfl) (hb hby d20_8) (fun _ _ => ⟨rfl, e2, (by decide : 1 + 0 ≤ _), (by decide : 3 + 0 ≤ _)⟩)
  dsimp only [Pt.U, Pt.locs, Pt.cells, Pt.slots] at X3 l3 y3 z3 st3 hQ3
  subst l3 y3 z3
  obtain ⟨rfl, N3q, K3, G0_3, G1_3, G2_3⟩ := hQ3
  have N0 := Fr.app N0 N3q
  have F_held_b0 := F_held_b0.keep K3 (ninS ne_b0_ac nin0)
  have E_ac := E_ac.keep K3
  have Z0 := Nat.le_trans Z0 K3.1
  have K0 := K0.trans K3 (allS (Or.inr sz_ac) all0)
  have F_pool_ac := G0_3
  have F_taken_ac := G1_3
  have F_closed_ac := G2_3
  refine own_step (B := T3.setTop (mkF m 11 #[.val (.ref b0)] [(.ref ac)])) (fun t k => st3 t k) ?_
  exact own_retA X3 hx hlk Bd.returns (hb hby d20_11) rfl (by decide) (by decide) (by exact ⟨_, rfl, N0, K0, g_ac, sz_ac, E_ac, F_pool_ac, F_taken_ac, F_closed_ac⟩)
theorem d19_0 : decode prog_100_method_4_code 0 = .ok (.aload_n 0, 1) := by decide +kernel
theorem d19_1 : decode prog_100_method_4_code 1 = .ok (.getfield 17, 3) := by decide +kernel
theorem d19_4 : decode prog_100_method_4_code 4 = .ok (.ifCond .eq 4, 3) := by decide +kernel
theorem d19_8 : decode prog_100_method_4_code 8 = .ok (.aload_n 0, 1) := by decide +kernel
theorem d19_9 : decode prog_100_method_4_code 9 = .ok (.getfield 7, 3) := by decide +kernel
theorem d19_12 : decode prog_100_method_4_code 12 = .ok (.dup, 1) := by decide +kernel
theorem d19_13 : decode prog_100_method_4_code 13 = .ok (.getfield 26, 3) := by decide +kernel
theorem d19_16 : decode prog_100_method_4_code 16 = .ok (.lload_n 1, 1) := by decide +kernel
theorem d19_17 : decode prog_100_method_4_code 17 = .ok (.ladd, 1) := by decide +kernel
theorem d19_18 : decode prog_100_method_4_code 18 = .ok (.putfield 26, 3) := by decide +kernel
theorem d19_21 : decode prog_100_method_4_code 21 = .ok (.aload_n 0, 1) := by decide +kernel
theorem d19_22 : decode prog_100_method_4_code 22 = .ok (.dup, 1) := by decide +kernel
theorem d19_23 : decode prog_100_method_4_code 23 = .ok (.getfield 13, 3) := by decide +kernel
theorem d19_26 : decode prog_100_method_4_code 26 = .ok (.lload_n 1, 1) := by decide +kernel
theorem d19_27 : decode prog_100_method_4_code 27 = .ok (.ladd, 1) := by decide +kernel
theorem d19_28 : decode prog_100_method_4_code 28 = .ok (.putfield 13, 3) := by decide +kernel
theorem d19_31 : decode prog_100_method_4_code 31 = .ok (.return_, 1) := by decide +kernel
theorem ef_rm19 (m : MethodId) (x0 : Addr) (x1 : Int64) : entryFrame m #[(.ref x0), (.long x1)] 3 = mkF m 0 #[.val (.ref x0), .val (.long x1), .second] [] := by first | (simp [entryFrame, mkF, argsToLocals, Value.category]; done) | rfl
def QQ_rm19 (Z : State) (b0 : Addr) (q1 : Int64) (po : Addr) (u tk mx : Int64) (h0 : Heap) (n0 : Nat) (v : Option Value) (h : Heap) (L : List Loc) : Prop := v = none ∧ Fr n0 L ∧ Keep h0 h [b0, po] ∧ Fld Z h po "com/example/loomwire/loomwire/transport/MemoryBudget$Pool" "used" "J" (.long (u + q1)) ∧ Fld Z h b0 "com/example/loomwire/loomwire/transport/MemoryBudget$Account" "taken" "J" (.long (tk + q1)) ∧ Fld Z h b0 "com/example/loomwire/loomwire/transport/MemoryBudget$Account" "closed" "Z" (.int (0 : Int32)) ∧ Fld Z h b0 "com/example/loomwire/loomwire/transport/MemoryBudget$Account" "pool" "Lcom/example/loomwire/loomwire/transport/MemoryBudget$Pool;" (.ref po) ∧ Fld Z h po "com/example/loomwire/loomwire/transport/MemoryBudget$Pool" "max" "J" (.long mx)
set_option maxRecDepth 65536 in
set_option maxHeartbeats 40000000 in
theorem rm19 (l : Launch) (Z : State) (a0 : Array Value) (hw : ∀ d ∈ tables_1, d.before a0 Z = true) (ws : List Jvm.Cond) (b0 : Addr) (q1 : Int64) (po : Addr) (u tk mx : Int64) (h0 : Heap) (n0 : Nat) (Z0 : n0 ≤ h0.size) (E_b0 : Exa Z h0 b0 "com/example/loomwire/loomwire/transport/MemoryBudget$Account") (E_po : Exa Z h0 po "com/example/loomwire/loomwire/transport/MemoryBudget$Pool") (g_b0 : n0 ≤ b0) (g_po : n0 ≤ po) (ne_b0_po : b0 ≠ po) (F_pool_b0 : Fld Z h0 b0 "com/example/loomwire/loomwire/transport/MemoryBudget$Account" "pool" "Lcom/example/loomwire/loomwire/transport/MemoryBudget$Pool;" (.ref po)) (F_taken_b0 : Fld Z h0 b0 "com/example/loomwire/loomwire/transport/MemoryBudget$Account" "taken" "J" (.long tk)) (F_closed_b0 : Fld Z h0 b0 "com/example/loomwire/loomwire/transport/MemoryBudget$Account" "closed" "Z" (.int (0 : Int32))) (F_used_po : Fld Z h0 po "com/example/loomwire/loomwire/transport/MemoryBudget$Pool" "used" "J" (.long u)) (F_max_po : Fld Z h0 po "com/example/loomwire/loomwire/transport/MemoryBudget$Pool" "max" "J" (.long mx)) :
    MetFree l (⟨"com/example/loomwire/loomwire/transport/MemoryBudget$Account", "force", "(J)V"⟩ : MethodName) (head1 (Jvm.Cond.code (⟨"com/example/loomwire/loomwire/transport/MemoryBudget$Account", "force", "(J)V"⟩ : MethodName) prog_100_method_4_code 3 none :: ws) ({ frames := 0, cells := 0, slots := 0, locals := 0 } : Room)) (fun a U => a = #[(.ref b0), (.long q1)] ∧ Z.Warmed39 U.vm ∧ U.heap = h0) (fun _ _ _ _ _ => True) (fun _ U o U' => ∃ v L, o = .returned v ∧ (QQ_rm19 Z b0 q1 po u tk mx h0 n0) v U'.heap L ∧ FrameEnd U o U' L ({ frames := 0, cells := 0, slots := 0, locals := 0 } : Room).cells ({ frames := 0, cells := 0, slots := 0, locals := 0 } : Room).slots) := by
  refine MetFree.of_bodySF (plainFor_of_name pn_com_example_loomwire_loomwire_transport_MemoryBudget_Account) hisR ?_
  intro p e s m args below meth c s₁ Bd hml0 hP hK
  obtain ⟨rfl, hZ, hh⟩ := hP
  have hx := Bd.exec
  have hby := Bd.bytes
  have hlk : meth.locks = false := BodyLoose.notSynchronized Bd
  have hml : c.maxLocals = 3 := hml0
  have hown : s.vm.findClass "com/example/loomwire/loomwire/transport/MemoryBudget$Account" = some m.cls := findClass_of_methodNamed Bd.named
  have hnm := (name_of_methodNamed Bd.named Bd.method).1
  have X0 : Stand p l e ({ frames := 0, cells := 0, slots := 0, locals := 0 } : Room) s m #[(.ref b0), (.long q1)] below meth c s₁ [] 0 0 := Stand.of_body Bd
  have e0 : s₁.heap = h0 := by rw [← hh, Bd.state]; rfl
  have N0 := Fr.nil n0
  show own_G p.tables e below s (QQ_rm19 Z b0 q1 po u tk mx h0 n0) ({ frames := 0, cells := 0, slots := 0, locals := 0 } : Room).cells ({ frames := 0, cells := 0, slots := 0, locals := 0 } : Room).slots (s₁.setTop (entryFrame m #[(.ref b0), (.long q1)] 3))
  refine own_step (B := s₁.setTop (mkF m 0 #[.val (.ref b0), .val (.long q1), .second] [])) (fun t k => castTop (ef_rm19 m b0 q1) k) ?_
  have K0 := Keep.refl h0 [b0, po]
  refine own_step (B := s₁.setTop (mkF m 1 #[.val (.ref b0), .val (.long q1), .second] [(.ref b0)])) (fun t k => XS.aloadN X0.here hx rfl (hb hby d19_0) rfl rfl k) ?_
  obtain ⟨T1, X1, e1, st1⟩ := getF X0 hx hZ hown (host := "") (Or.inl (hw _ (List.mem_of_getElem? (i := 141) rfl))) Via.refl e0 F_closed_b0 (g := (mkF m 1 #[.val (.ref b0), .val (.long q1), .second] [(.ref b0)])) rfl rfl (hb hby d19_1)
  refine own_step (B := T1.setTop (mkF m 4 #[.val (.ref b0), .val (.long q1), .second] [(.int (0 : Int32))])) (fun t k => st1 t k) ?_
  refine own_step (B := T1.setTop (mkF m 8 #[.val (.ref b0), .val (.long q1), .second] [])) (fun t k => XS.ifYes X1.here hx rfl (pc0 := 4) (pc' := 8) rfl (hb hby d19_4) rfl ((if0 _ _).trans (teq rfl).1) (by decide) (by decide) k) ?_
  refine own_step (B := T1.setTop (mkF m 9 #[.val (.ref b0), .val (.long q1), .second] [(.ref b0)])) (fun t k => XS.aloadN X1.here hx rfl (hb hby d19_8) rfl rfl k) ?_
  obtain ⟨T2, X2, e2, st2⟩ := getF X1 hx hZ hown (host := "") (Or.inl (hw _ (List.mem_of_getElem? (i := 134) rfl))) Via.refl e1 F_pool_b0 (g := (mkF m 9 #[.val (.ref b0), .val (.long q1), .second] [(.ref b0)])) rfl rfl (hb hby d19_9)
  refine own_step (B := T2.setTop (mkF m 12 #[.val (.ref b0), .val (.long q1), .second] [(.ref po)])) (fun t k => st2 t k) ?_
  refine own_step (B := T2.setTop (mkF m 13 #[.val (.ref b0), .val (.long q1), .second] [(.ref po), (.ref po)])) (fun t k => XS.dup X2.here hx rfl (hb hby d19_12) rfl rfl k) ?_
  obtain ⟨T3, X3, e3, st3⟩ := getF X2 hx hZ hown (Or.inr (hw _ (List.mem_of_getElem? (i := 143) rfl))) Via.refl e2 F_used_po (g := (mkF m 13 #[.val (.ref b0), .val (.long q1), .second] [(.ref po), (.ref po)])) rfl rfl (hb hby d19_13)
  refine own_step (B := T3.setTop (mkF m 16 #[.val (.ref b0), .val (.long q1), .second] [(.long u), (.ref po)])) (fun t k => st3 t k) ?_
  refine own_step (B := T3.setTop (mkF m 17 #[.val (.ref b0), .val (.long q1), .second] [(.long q1), (.long u), (.ref po)])) (fun t k => XS.lloadN X3.here hx rfl (hb hby d19_16) rfl k) ?_
  refine own_step (B := T3.setTop (mkF m 18 #[.val (.ref b0), .val (.long q1), .second] [(.long (u + q1)), (.ref po)])) (fun t k => XS.ladd X3.here hx rfl (hb hby d19_17) rfl k) ?_
  obtain ⟨T4, h4, X4, e4, W4, st4⟩ := putF X3 hx hZ hown (Or.inr (hw _ (List.mem_of_getElem? (i := 143) rfl))) Via.refl e3 F_used_po E_po (Or.inl (hw _ (List.mem_of_getElem? (i := 121) rfl))) (hw _ (List.mem_of_getElem? (i := 100) rfl)) (ty := .long) (by decide) rfl rfl (g := (mkF m 18 #[.val (.ref b0), .val (.long q1), .second] [(.long (u + q1)), (.ref po)])) rfl rfl (hb hby d19_18)
  have E_b0 := E_b0.wr W4
  have E_po := E_po.wr W4
  have F_pool_b0 := F_pool_b0.other W4 (Or.inl ne_b0_po)
  have F_taken_b0 := F_taken_b0.other W4 (Or.inl ne_b0_po)
  have F_closed_b0 := F_closed_b0.other W4 (Or.inl ne_b0_po)
  have F_used_po := F_used_po.same W4
  have F_max_po := F_max_po.other W4 (Or.inr (slot_ne (Or.inr (hw _ (List.mem_of_getElem? (i := 107) rfl))) (Or.inl (hw _ (List.mem_of_getElem? (i := 121) rfl))) (by decide) (t := .long) (t' := .long) (by decide) (by decide)))
  have Z0 := Nat.le_trans Z0 (Keep.of_wr W4).1
  have K0 := K0.wr W4 (Or.inl (List.mem_of_getElem? (i := 1) rfl))
  have N0 := Fr.snoc X4 N0 g_po
  refine own_step (B := T4.setTop (mkF m 21 #[.val (.ref b0), .val (.long q1), .second] [])) (fun t k => st4 t k) ?_
  refine own_step (B := T4.setTop (mkF m 22 #[.val (.ref b0), .val (.long q1), .second] [(.ref b0)])) (fun t k => XS.aloadN X4.here hx rfl (hb hby d19_21) rfl rfl k) ?_
  refine own_step (B := T4.setTop (mkF m 23 #[.val (.ref b0), .val (.long q1), .second] [(.ref b0), (.ref b0)])) (fun t k => XS.dup X4.here hx rfl (hb hby d19_22) rfl rfl k) ?_
  obtain ⟨T5, X5, e5, st5⟩ := getF X4 hx hZ hown (host := "") (Or.inl (hw _ (List.mem_of_getElem? (i := 144) rfl))) Via.refl e4 F_taken_b0 (g := (mkF m 23 #[.val (.ref b0), .val (.long q1), .second] [(.ref b0), (.ref b0)])) rfl rfl (hb hby d19_23)
  refine own_step (B := T5.setTop (mkF m 26 #[.val (.ref b0), .val (.long q1), .second] [(.long tk), (.ref b0)])) (fun t k => st5 t k) ?_
  refine own_step (B := T5.setTop (mkF m 27 #[.val (.ref b0), .val (.long q1), .second] [(.long q1), (.long tk), (.ref b0)])) (fun t k => XS.lloadN X5.here hx rfl (hb hby d19_26) rfl k) ?_
  refine own_step (B := T5.setTop (mkF m 28 #[.val (.ref b0), .val (.long q1), .second] [(.long (tk + q1)), (.ref b0)])) (fun t k => XS.ladd X5.here hx rfl (hb hby d19_27) rfl k) ?_
  obtain ⟨T6, h6, X6, e6, W6, st6⟩ := putF X5 hx hZ hown (host := "") (Or.inl (hw _ (List.mem_of_getElem? (i := 144) rfl))) Via.refl e5 F_taken_b0 E_b0 (Or.inl (hw _ (List.mem_of_getElem? (i := 145) rfl))) (hw _ (List.mem_of_getElem? (i := 128) rfl)) (ty := .long) (by decide) rfl rfl (g := (mkF m 28 #[.val (.ref b0), .val (.long q1), .second] [(.long (tk + q1)), (.ref b0)])) rfl rfl (hb hby d19_28)
  have E_b0 := E_b0.wr W6
  have E_po := E_po.wr W6
  have F_pool_b0 := F_pool_b0.other W6 (Or.inr (slot_ne (Or.inr (hw _ (List.mem_of_getElem? (i := 135) rfl))) (Or.inl (hw _ (List.mem_of_getElem? (i := 145) rfl))) (by decide) (t := (.object "com/example/loomwire/loomwire/transport/MemoryBudget$Pool")) (t' := .long) (by decide) (by decide)))
  have F_taken_b0 := F_taken_b0.same W6
  have F_closed_b0 := F_closed_b0.other W6 (Or.inr (slot_ne (Or.inl (hw _ (List.mem_of_getElem? (i := 142) rfl))) (Or.inl (hw _ (List.mem_of_getElem? (i := 145) rfl))) (by decide) (t := .boolean) (t' := .long) (by decide) (by decide)))
  have F_used_po := F_used_po.other W6 (Or.inl (Ne.symm ne_b0_po))
  have F_max_po := F_max_po.other W6 (Or.inl (Ne.symm ne_b0_po))
  have Z0 := Nat.le_trans Z0 (Keep.of_wr W6).1
  have K0 := K0.wr W6 (Or.inl (List.mem_of_getElem? (i := 0) rfl))
  have N0 := Fr.snoc X6 N0 g_b0
  refine own_step (B := T6.setTop (mkF m 31 #[.val (.ref b0), .val (.long q1), .second] [])) (fun t k => st6 t k) ?_
  exact own_retV X6 hx hlk Bd.returns (hb hby d19_31) (by decide) (by decide) (by rw [e6]; exact ⟨rfl, N0, K0, F_used_po, F_taken_b0, F_closed_b0, F_pool_b0, F_max_po⟩)
theorem d21_0 : decode prog_100_method_6_code 0 = .ok (.aload_n 0, 1) := by decide +kernel
theorem d21_1 : decode prog_100_method_6_code 1 = .ok (.getfield 17, 3) := by decide +kernel
theorem d21_4 : decode prog_100_method_6_code 4 = .ok (.ifCond .eq 4, 3) := by decide +kernel
theorem d21_8 : decode prog_100_method_6_code 8 = .ok (.aload_n 0, 1) := by decide +kernel
theorem d21_9 : decode prog_100_method_6_code 9 = .ok (.iconst 1, 1) := by decide +kernel
theorem d21_10 : decode prog_100_method_6_code 10 = .ok (.putfield 17, 3) := by decide +kernel
theorem d21_13 : decode prog_100_method_6_code 13 = .ok (.aload_n 0, 1) := by decide +kernel
theorem d21_14 : decode prog_100_method_6_code 14 = .ok (.getfield 7, 3) := by decide +kernel
theorem d21_17 : decode prog_100_method_6_code 17 = .ok (.dup, 1) := by decide +kernel
theorem d21_18 : decode prog_100_method_6_code 18 = .ok (.getfield 26, 3) := by decide +kernel
theorem d21_21 : decode prog_100_method_6_code 21 = .ok (.aload_n 0, 1) := by decide +kernel
theorem d21_22 : decode prog_100_method_6_code 22 = .ok (.getfield 13, 3) := by decide +kernel
theorem d21_25 : decode prog_100_method_6_code 25 = .ok (.lsub, 1) := by decide +kernel
theorem d21_26 : decode prog_100_method_6_code 26 = .ok (.putfield 26, 3) := by decide +kernel
theorem d21_29 : decode prog_100_method_6_code 29 = .ok (.aload_n 0, 1) := by decide +kernel
theorem d21_30 : decode prog_100_method_6_code 30 = .ok (.lconst 0, 1) := by decide +kernel
theorem d21_31 : decode prog_100_method_6_code 31 = .ok (.putfield 13, 3) := by decide +kernel
theorem d21_34 : decode prog_100_method_6_code 34 = .ok (.return_, 1) := by decide +kernel
theorem ef_rm21 (m : MethodId) (x0 : Addr) : entryFrame m #[(.ref x0)] 1 = mkF m 0 #[.val (.ref x0)] [] := by first | (simp [entryFrame, mkF, argsToLocals, Value.category]; done) | rfl
def QQ_rm21 (Z : State) (b0 : Addr) (po : Addr) (u tk mx : Int64) (h0 : Heap) (n0 : Nat) (v : Option Value) (h : Heap) (L : List Loc) : Prop := v = none ∧ Fr n0 L ∧ Keep h0 h [b0, po] ∧ Fld Z h po "com/example/loomwire/loomwire/transport/MemoryBudget$Pool" "used" "J" (.long (u - tk)) ∧ Fld Z h b0 "com/example/loomwire/loomwire/transport/MemoryBudget$Account" "taken" "J" (.long (0 : Int64)) ∧ Fld Z h b0 "com/example/loomwire/loomwire/transport/MemoryBudget$Account" "closed" "Z" (.int (1 : Int32)) ∧ Fld Z h b0 "com/example/loomwire/loomwire/transport/MemoryBudget$Account" "pool" "Lcom/example/loomwire/loomwire/transport/MemoryBudget$Pool;" (.ref po) ∧ Fld Z h po "com/example/loomwire/loomwire/transport/MemoryBudget$Pool" "max" "J" (.long mx)
set_option maxRecDepth 65536 in
set_option maxHeartbeats 40000000 in
theorem rm21 (l : Launch) (Z : State) (a0 : Array Value) (hw : ∀ d ∈ tables_1, d.before a0 Z = true) (ws : List Jvm.Cond) (b0 : Addr) (po : Addr) (u tk mx : Int64) (h0 : Heap) (n0 : Nat) (Z0 : n0 ≤ h0.size) (E_b0 : Exa Z h0 b0 "com/example/loomwire/loomwire/transport/MemoryBudget$Account") (E_po : Exa Z h0 po "com/example/loomwire/loomwire/transport/MemoryBudget$Pool") (g_b0 : n0 ≤ b0) (g_po : n0 ≤ po) (ne_b0_po : b0 ≠ po) (F_pool_b0 : Fld Z h0 b0 "com/example/loomwire/loomwire/transport/MemoryBudget$Account" "pool" "Lcom/example/loomwire/loomwire/transport/MemoryBudget$Pool;" (.ref po)) (F_taken_b0 : Fld Z h0 b0 "com/example/loomwire/loomwire/transport/MemoryBudget$Account" "taken" "J" (.long tk)) (F_closed_b0 : Fld Z h0 b0 "com/example/loomwire/loomwire/transport/MemoryBudget$Account" "closed" "Z" (.int (0 : Int32))) (F_used_po : Fld Z h0 po "com/example/loomwire/loomwire/transport/MemoryBudget$Pool" "used" "J" (.long u)) (F_max_po : Fld Z h0 po "com/example/loomwire/loomwire/transport/MemoryBudget$Pool" "max" "J" (.long mx)) :
    MetFree l (⟨"com/example/loomwire/loomwire/transport/MemoryBudget$Account", "close", "()V"⟩ : MethodName) (head1 (Jvm.Cond.code (⟨"com/example/loomwire/loomwire/transport/MemoryBudget$Account", "close", "()V"⟩ : MethodName) prog_100_method_6_code 1 none :: ws) ({ frames := 0, cells := 0, slots := 0, locals := 0 } : Room)) (fun a U => a = #[(.ref b0)] ∧ Z.Warmed39 U.vm ∧ U.heap = h0) (fun _ _ _ _ _ => True) (fun _ U o U' => ∃ v L, o = .returned v ∧ (QQ_rm21 Z b0 po u tk mx h0 n0) v U'.heap L ∧ FrameEnd U o U' L ({ frames := 0, cells := 0, slots := 0, locals := 0 } : Room).cells ({ frames := 0, cells := 0, slots := 0, locals := 0 } : Room).slots) := by
  refine MetFree.of_bodySF (plainFor_of_name pn_com_example_loomwire_loomwire_transport_MemoryBudget_Account) hisR ?_
  intro p e s m args below meth c s₁ Bd hml0 hP hK
  obtain ⟨rfl, hZ, hh⟩ := hP
  have hx := Bd.exec
  have hby := Bd.bytes
  have hlk : meth.locks = false := BodyLoose.notSynchronized Bd
  have hml : c.maxLocals = 1 := hml0
  have hown : s.vm.findClass "com/example/loomwire/loomwire/transport/MemoryBudget$Account" = some m.cls := findClass_of_methodNamed Bd.named
  have hnm := (name_of_methodNamed Bd.named Bd.method).1
  have X0 : Stand p l e ({ frames := 0, cells := 0, slots := 0, locals := 0 } : Room) s m #[(.ref b0)] below meth c s₁ [] 0 0 := Stand.of_body Bd
  have e0 : s₁.heap = h0 := by rw [← hh, Bd.state]; rfl
  have N0 := Fr.nil n0
  show own_G p.tables e below s (QQ_rm21 Z b0 po u tk mx h0 n0) ({ frames := 0, cells := 0, slots := 0, locals := 0 } : Room).cells ({ frames := 0, cells := 0, slots := 0, locals := 0 } : Room).slots (s₁.setTop (entryFrame m #[(.ref b0)] 1))
  refine own_step (B := s₁.setTop (mkF m 0 #[.val (.ref b0)] [])) (fun t k => castTop (ef_rm21 m b0) k) ?_
  have K0 := Keep.refl h0 [b0, po]
  refine own_step (B := s₁.setTop (mkF m 1 #[.val (.ref b0)] [(.ref b0)])) (fun t k => XS.aloadN X0.here hx rfl (hb hby d21_0) rfl rfl k) ?_
  obtain ⟨T1, X1, e1, st1⟩ := getF X0 hx hZ hown (host := "") (Or.inl (hw _ (List.mem_of_getElem? (i := 141) rfl))) Via.refl e0 F_closed_b0 (g := (mkF m 1 #[.val (.ref b0)] [(.ref b0)])) rfl rfl (hb hby d21_1)
  refine own_step (B := T1.setTop (mkF m 4 #[.val (.ref b0)] [(.int (0 : Int32))])) (fun t k => st1 t k) ?_
  refine own_step (B := T1.setTop (mkF m 8 #[.val (.ref b0)] [])) (fun t k => XS.ifYes X1.here hx rfl (pc0 := 4) (pc' := 8) rfl (hb hby d21_4) rfl ((if0 _ _).trans (teq rfl).1) (by decide) (by decide) k) ?_
  refine own_step (B := T1.setTop (mkF m 9 #[.val (.ref b0)] [(.ref b0)])) (fun t k => XS.aloadN X1.here hx rfl (hb hby d21_8) rfl rfl k) ?_
  refine own_step (B := T1.setTop (mkF m 10 #[.val (.ref b0)] [(.int (1 : Int32)), (.ref b0)])) (fun t k => XS.iconst X1.here hx rfl (hb hby d21_9) k) ?_
  obtain ⟨T2, h2, X2, e2, W2, st2⟩ := putFN X1 hx hZ hown (hw _ (List.mem_of_getElem? (i := 141) rfl)) Via.refl e1 F_closed_b0 E_b0 (Or.inl (hw _ (List.mem_of_getElem? (i := 142) rfl))) (hw _ (List.mem_of_getElem? (i := 128) rfl)) (ty := .boolean) (v' := (.int (1 : Int32))) (by decide) rfl rfl (g := (mkF m 10 #[.val (.ref b0)] [(.int (1 : Int32)), (.ref b0)])) rfl rfl (hb hby d21_10)
  have E_b0 := E_b0.wr W2
  have E_po := E_po.wr W2
  have F_pool_b0 := F_pool_b0.other W2 (Or.inr (slot_ne (Or.inr (hw _ (List.mem_of_getElem? (i := 135) rfl))) (Or.inl (hw _ (List.mem_of_getElem? (i := 142) rfl))) (by decide) (t := (.object "com/example/loomwire/loomwire/transport/MemoryBudget$Pool")) (t' := .boolean) (by decide) (by decide)))
  have F_taken_b0 := F_taken_b0.other W2 (Or.inr (slot_ne (Or.inl (hw _ (List.mem_of_getElem? (i := 145) rfl))) (Or.inl (hw _ (List.mem_of_getElem? (i := 142) rfl))) (by decide) (t := .long) (t' := .boolean) (by decide) (by decide)))
  have F_closed_b0 := F_closed_b0.same W2
  have F_used_po := F_used_po.other W2 (Or.inl (Ne.symm ne_b0_po))
  have F_max_po := F_max_po.other W2 (Or.inl (Ne.symm ne_b0_po))
  have Z0 := Nat.le_trans Z0 (Keep.of_wr W2).1
  have K0 := K0.wr W2 (Or.inl (List.mem_of_getElem? (i := 0) rfl))
  have N0 := Fr.snoc X2 N0 g_b0
  refine own_step (B := T2.setTop (mkF m 13 #[.val (.ref b0)] [])) (fun t k => st2 t k) ?_
  refine own_step (B := T2.setTop (mkF m 14 #[.val (.ref b0)] [(.ref b0)])) (fun t k => XS.aloadN X2.here hx rfl (hb hby d21_13) rfl rfl k) ?_
  obtain ⟨T3, X3, e3, st3⟩ := getF X2 hx hZ hown (host := "") (Or.inl (hw _ (List.mem_of_getElem? (i := 134) rfl))) Via.refl e2 F_pool_b0 (g := (mkF m 14 #[.val (.ref b0)] [(.ref b0)])) rfl rfl (hb hby d21_14)
  refine own_step (B := T3.setTop (mkF m 17 #[.val (.ref b0)] [(.ref po)])) (fun t k => st3 t k) ?_
  refine own_step (B := T3.setTop (mkF m 18 #[.val (.ref b0)] [(.ref po), (.ref po)])) (fun t k => XS.dup X3.here hx rfl (hb hby d21_17) rfl rfl k) ?_
  obtain ⟨T4, X4, e4, st4⟩ := getF X3 hx hZ hown (Or.inr (hw _ (List.mem_of_getElem? (i := 143) rfl))) Via.refl e3 F_used_po (g := (mkF m 18 #[.val (.ref b0)] [(.ref po), (.ref po)])) rfl rfl (hb hby d21_18)
  refine own_step (B := T4.setTop (mkF m 21 #[.val (.ref b0)] [(.long u), (.ref po)])) (fun t k => st4 t k) ?_
  refine own_step (B := T4.setTop (mkF m 22 #[.val (.ref b0)] [(.ref b0), (.long u), (.ref po)])) (fun t k => XS.aloadN X4.here hx rfl (hb hby d21_21) rfl rfl k) ?_
  obtain ⟨T5, X5, e5, st5⟩ := getF X4 hx hZ hown (host := "") (Or.inl (hw _ (List.mem_of_getElem? (i := 144) rfl))) Via.refl e4 F_taken_b0 (g := (mkF m 22 #[.val (.ref b0)] [(.ref b0), (.long u), (.ref po)])) rfl rfl (hb hby d21_22)
  refine own_step (B := T5.setTop (mkF m 25 #[.val (.ref b0)] [(.long tk), (.long u), (.ref po)])) (fun t k => st5 t k) ?_
  refine own_step (B := T5.setTop (mkF m 26 #[.val (.ref b0)] [(.long (u - tk)), (.ref po)])) (fun t k => XS.lsub X5.here hx rfl (hb hby d21_25) rfl k) ?_
  obtain ⟨T6, h6, X6, e6, W6, st6⟩ := putF X5 hx hZ hown (Or.inr (hw _ (List.mem_of_getElem? (i := 143) rfl))) Via.refl e5 F_used_po E_po (Or.inl (hw _ (List.mem_of_getElem? (i := 121) rfl))) (hw _ (List.mem_of_getElem? (i := 100) rfl)) (ty := .long) (by decide) rfl rfl (g := (mkF m 26 #[.val (.ref b0)] [(.long (u - tk)), (.ref po)])) rfl rfl (hb hby d21_26)
  have E_b0 := E_b0.wr W6
  have E_po := E_po.wr W6
  have F_pool_b0 := F_pool_b0.other W6 (Or.inl ne_b0_po)
  have F_taken_b0 := F_taken_b0.other W6 (Or.inl ne_b0_po)
  have F_closed_b0 := F_closed_b0.other W6 (Or.inl ne_b0_po)
  have F_used_po := F_used_po.same W6
  have F_max_po := F_max_po.other W6 (Or.inr (slot_ne (Or.inr (hw _ (List.mem_of_getElem? (i := 107) rfl))) (Or.inl (hw _ (List.mem_of_getElem? (i := 121) rfl))) (by decide) (t := .long) (t' := .long) (by decide) (by decide)))
  have Z0 := Nat.le_trans Z0 (Keep.of_wr W6).1
  have K0 := K0.wr W6 (Or.inl (List.mem_of_getElem? (i := 1) rfl))
  have N0 := Fr.snoc X6 N0 g_po
  refine own_step (B := T6.setTop (mkF m 29 #[.val (.ref b0)] [])) (fun t k => st6 t k) ?_
  refine own_step (B := T6.setTop (mkF m 30 #[.val (.ref b0)] [(.ref b0)])) (fun t k => XS.aloadN X6.here hx rfl (hb hby d21_29) rfl rfl k) ?_
  refine own_step (B := T6.setTop (mkF m 31 #[.val (.ref b0)] [(.long (0 : Int64)), (.ref b0)])) (fun t k => XS.lconst X6.here hx rfl (hb hby d21_30) k) ?_
  obtain ⟨T7, h7, X7, e7, W7, st7⟩ := putF X6 hx hZ hown (host := "") (Or.inl (hw _ (List.mem_of_getElem? (i := 144) rfl))) Via.refl e6 F_taken_b0 E_b0 (Or.inl (hw _ (List.mem_of_getElem? (i := 145) rfl))) (hw _ (List.mem_of_getElem? (i := 128) rfl)) (ty := .long) (by decide) rfl rfl (g := (mkF m 31 #[.val (.ref b0)] [(.long (0 : Int64)), (.ref b0)])) rfl rfl (hb hby d21_31)
  have E_b0 := E_b0.wr W7
  have E_po := E_po.wr W7
  have F_pool_b0 := F_pool_b0.other W7 (Or.inr (slot_ne (Or.inr (hw _ (List.mem_of_getElem? (i := 135) rfl))) (Or.inl (hw _ (List.mem_of_getElem? (i := 145) rfl))) (by decide) (t := (.object "com/example/loomwire/loomwire/transport/MemoryBudget$Pool")) (t' := .long) (by decide) (by decide)))
  have F_taken_b0 := F_taken_b0.same W7
  have F_closed_b0 := F_closed_b0.other W7 (Or.inr (slot_ne (Or.inl (hw _ (List.mem_of_getElem? (i := 142) rfl))) (Or.inl (hw _ (List.mem_of_getElem? (i := 145) rfl))) (by decide) (t := .boolean) (t' := .long) (by decide) (by decide)))
  have F_used_po := F_used_po.other W7 (Or.inl (Ne.symm ne_b0_po))
  have F_max_po := F_max_po.other W7 (Or.inl (Ne.symm ne_b0_po))
  have Z0 := Nat.le_trans Z0 (Keep.of_wr W7).1
  have K0 := K0.wr W7 (Or.inl (List.mem_of_getElem? (i := 0) rfl))
  have N0 := Fr.snoc X7 N0 g_b0
  refine own_step (B := T7.setTop (mkF m 34 #[.val (.ref b0)] [])) (fun t k => st7 t k) ?_
  exact own_retV X7 hx hlk Bd.returns (hb hby d21_34) (by decide) (by decide) (by rw [e7]; exact ⟨rfl, N0, K0, F_used_po, F_taken_b0, F_closed_b0, F_pool_b0, F_max_po⟩)
theorem own_r0 (x : Int64) : lcmpW (x - 0) x = 0 := (lw_eq _ _).mpr (Int64.sub_zero x)
theorem own_r1 (x a : Int64) : lcmpW (x - (0 + a)) (x - a) = 0 := (lw_eq _ _).mpr (by rw [Int64.zero_add])
theorem own_r3 (x a : Int64) : lcmpW (x - ((0 + a) - (0 + a))) x = 0 := (lw_eq _ _).mpr (by rw [Int64.sub_self, Int64.sub_zero])
theorem pn_com_example_loomwire_loomwire_transport_MemoryBudgetQueuedRoomPinLaw : plainName "com/example/loomwire/loomwire/transport/MemoryBudgetQueuedRoomPinLaw" = true := by first | (simp [plainName, overriddenIn]; done) | decide +kernel
theorem ef_rm0 (m : MethodId) (x0 : Int64) (x1 : Int64) (x2 : Int64) (x3 : Int64) : entryFrame m #[(.long x0), (.long x1), (.long x2), (.long x3)] maxLocals = mkF m 0 #[.val (.long x0), .second, .val (.long x1), .second, .val (.long x2), .second, .val (.long x3), .second, .unset, .unset, .unset, .unset, .unset, .unset, .unset, .unset, .unset, .unset, .unset, .unset, .unset] [] := by first | (simp [entryFrame, mkF, argsToLocals, Value.category, maxLocals]; done) | rfl
def QQ_rm0 (Z : State) (q0 : Int64) (q2 : Int64) (q4 : Int64) (q6 : Int64)  (h0 : Heap) (n0 : Nat) (v : Option Value) (h : Heap) (L : List Loc) : Prop := v = some (.int 1) ∧ Fr n0 L
set_option maxRecDepth 65536 in
set_option maxHeartbeats 40000000 in
theorem rm0 (l : Launch) (Z : State) (a0 : Array Value) (hw : ∀ d ∈ tables_1, d.before a0 Z = true) (ws : List Jvm.Cond) (q0 : Int64) (q2 : Int64) (q4 : Int64) (q6 : Int64)  (h0 : Heap) (n0 : Nat) (Z0 : n0 ≤ h0.size)  :
    MetFree l x (head1 (Jvm.Cond.code x code maxLocals ret :: ws) room_1) (fun a U => a = #[(.long q0), (.long q2), (.long q4), (.long q6)] ∧ Z.Warmed39 U.vm ∧ U.heap = h0) (fun _ _ _ _ _ => True) (fun _ U o U' => ∃ v L, o = .returned v ∧ (QQ_rm0 Z q0 q2 q4 q6 h0 n0) v U'.heap L ∧ FrameEnd U o U' L room_1.cells room_1.slots) := by
  refine MetFree.of_bodySF (plainFor_of_name pn_com_example_loomwire_loomwire_transport_MemoryBudgetQueuedRoomPinLaw) hisR ?_
  intro p e s m args below meth c s₁ Bd hml0 hP hK
  obtain ⟨rfl, hZ, hh⟩ := hP
  have hx := Bd.exec
  have hby := Bd.bytes
  have hlk : meth.locks = false := BodyLoose.notSynchronized Bd
  have hml : c.maxLocals = 21 := hml0
  have hown : s.vm.findClass "com/example/loomwire/loomwire/transport/MemoryBudgetQueuedRoomPinLaw" = some m.cls := findClass_of_methodNamed Bd.named
  have hnm := (name_of_methodNamed Bd.named Bd.method).1
  have X0 : Stand p l e room_1 s m #[(.long q0), (.long q2), (.long q4), (.long q6)] below meth c s₁ [] 0 0 := Stand.of_body Bd
  have e0 : s₁.heap = h0 := by rw [← hh, Bd.state]; rfl
  have N0 := Fr.nil n0
  show own_G p.tables e below s (QQ_rm0 Z q0 q2 q4 q6 h0 n0) room_1.cells room_1.slots (s₁.setTop (entryFrame m #[(.long q0), (.long q2), (.long q4), (.long q6)] maxLocals))
  refine own_step (B := s₁.setTop (mkF m 0 #[.val (.long q0), .second, .val (.long q2), .second, .val (.long q4), .second, .val (.long q6), .second, .unset, .unset, .unset, .unset, .unset, .unset, .unset, .unset, .unset, .unset, .unset, .unset, .unset] [])) (fun t k => castTop (ef_rm0 m q0 q2 q4 q6) k) ?_
  obtain ⟨T1, h1, X1, e1, E1, A1, D1, -, st1⟩ := newO X0 hx hZ hown (hw _ (List.mem_of_getElem? (i := 0) rfl)) (hw _ (List.mem_of_getElem? (i := 1) rfl)) (hw _ (List.mem_of_getElem? (i := 2) rfl)) e0 (g := (mkF m 0 #[.val (.long q0), .second, .val (.long q2), .second, .val (.long q4), .second, .val (.long q6), .second, .unset, .unset, .unset, .unset, .unset, .unset, .unset, .unset, .unset, .unset, .unset, .unset, .unset] [])) rfl (hb hby at_0) (by decide) (by decide)
  obtain ⟨mb, g1⟩ : ∃ z, z = h0.size := ⟨_, rfl⟩
  rw [← g1] at A1 D1 st1
  have g_mb : n0 ≤ mb := Nat.le_trans Z0 (Nat.le_of_eq g1.symm)
  have Z0 := Nat.le_trans Z0 E1.1
  have E_mb := A1
  have F_served_mb : Fld Z h1 mb "com/example/loomwire/loomwire/transport/MemoryBudget" "served" "Ljava/util/Set;" .null := D1 (Or.inr (hw _ (List.mem_of_getElem? (i := 79) rfl))) (ty := (.object "java/util/Set")) (by decide)
  have F_refused_mb : Fld Z h1 mb "com/example/loomwire/loomwire/transport/MemoryBudget" "refused" "Ljava/util/Set;" .null := D1 (Or.inr (hw _ (List.mem_of_getElem? (i := 98) rfl))) (ty := (.object "java/util/Set")) (by decide)
  have F_held_mb : Fld Z h1 mb "com/example/loomwire/loomwire/transport/MemoryBudget" "held" "Lcom/example/loomwire/loomwire/transport/MemoryBudget$Pool;" .null := D1 (Or.inr (hw _ (List.mem_of_getElem? (i := 109) rfl))) (ty := (.object "com/example/loomwire/loomwire/transport/MemoryBudget$Pool")) (by decide)
  have F_queued_mb : Fld Z h1 mb "com/example/loomwire/loomwire/transport/MemoryBudget" "queued" "Lcom/example/loomwire/loomwire/transport/MemoryBudget$Pool;" .null := D1 (Or.inr (hw _ (List.mem_of_getElem? (i := 111) rfl))) (ty := (.object "com/example/loomwire/loomwire/transport/MemoryBudget$Pool")) (by decide)
  have F_maxConnections_mb : Fld Z h1 mb "com/example/loomwire/loomwire/transport/MemoryBudget" "maxConnections" "I" (.int (0 : Int32)) := D1 (Or.inr (hw _ (List.mem_of_getElem? (i := 113) rfl))) (ty := .int) (by decide)
  refine own_step (B := T1.setTop (mkF m 3 #[.val (.long q0), .second, .val (.long q2), .second, .val (.long q4), .second, .val (.long q6), .second, .unset, .unset, .unset, .unset, .unset, .unset, .unset, .unset, .unset, .unset, .unset, .unset, .unset] [(.ref mb)])) (fun t k => st1 t k) ?_
  refine own_step (B := T1.setTop (mkF m 4 #[.val (.long q0), .second, .val (.long q2), .second, .val (.long q4), .second, .val (.long q6), .second, .unset, .unset, .unset, .unset, .unset, .unset, .unset, .unset, .unset, .unset, .unset, .unset, .unset] [(.ref mb), (.ref mb)])) (fun t k => XS.dup X1.here hx rfl (hb hby at_3) rfl rfl k) ?_
  refine own_step (B := T1.setTop (mkF m 5 #[.val (.long q0), .second, .val (.long q2), .second, .val (.long q4), .second, .val (.long q6), .second, .unset, .unset, .unset, .unset, .unset, .unset, .unset, .unset, .unset, .unset, .unset, .unset, .unset] [(.long q2), (.ref mb), (.ref mb)])) (fun t k => XS.lloadN X1.here hx rfl (hb hby at_4) rfl k) ?_
  refine own_step (B := T1.setTop (mkF m 6 #[.val (.long q0), .second, .val (.long q2), .second, .val (.long q4), .second, .val (.long q6), .second, .unset, .unset, .unset, .unset, .unset, .unset, .unset, .unset, .unset, .unset, .unset, .unset, .unset] [(.long q0), (.long q2), (.ref mb), (.ref mb)])) (fun t k => XS.lloadN X1.here hx rfl (hb hby at_5) rfl k) ?_
  refine own_step (B := T1.setTop (mkF m 7 #[.val (.long q0), .second, .val (.long q2), .second, .val (.long q4), .second, .val (.long q6), .second, .unset, .unset, .unset, .unset, .unset, .unset, .unset, .unset, .unset, .unset, .unset, .unset, .unset] [(.int (1 : Int32)), (.long q0), (.long q2), (.ref mb), (.ref mb)])) (fun t k => XS.iconst X1.here hx rfl (hb hby at_6) k) ?_
  obtain ⟨_, _, ⟨T2, L2, k2, n2⟩, -, X2, ⟨Lc2, hQ2, l2, y2, z2⟩, st2⟩ := X1.specialBack hx (y := (⟨"com/example/loomwire/loomwire/transport/MemoryBudget", "<init>", "(JJI)V"⟩ : MethodName)) rfl hown (mvT hZ (hw _ (List.mem_of_getElem? (i := 3) rfl))) (mvT hZ (hw _ (List.mem_of_getElem? (i := 4) rfl))) (mvT hZ (hw _ (List.mem_of_getElem? (i := 5) rfl))) (by decide) (backOf (W := 1) (rm1 l Z a0 hw [] mb q2 q0 (1 : Int32)  h1 n0 Z0 E_mb g_mb F_served_mb F_refused_mb F_held_mb F_queued_mb F_maxConnections_mb) hZ (hw _ (List.mem_of_getElem? (i := 5) rfl)) (hw _ (List.mem_of_getElem? (i := 2) rfl)) (by decide) (by decide)) (g := (mkF m 7 #[.val (.long q0), .second, .val (.long q2), .second, .val (.long q4), .second, .val (.long q6), .second, .unset, .unset, .unset, .unset, .unset, .unset, .unset, .unset, .unset, .unset, .unset, .unset, .unset] [(.int (1 : Int32)), (.long q0), (.long q2), (.ref mb), (.ref mb)])) rfl (by rw [hml]; rfl) (Steps.refl _) (a := mb) (argsL := [(.long q2), (.long q0), (.int (1 : Int32))]) (rest := [(.ref mb)]) (lenOf pd_7 rfl) rfl (by show 2 * 0 + _ ≤ _; exact Nat.le_of_eq rfl) (hb hby at_7) (fun _ _ => ⟨rfl, e1, (by decide : 1 + 6 ≤ _), (by decide : 5 + 26 ≤ _)⟩)
  dsimp only [Pt.U, Pt.locs, Pt.cells, Pt.slots] at X2 l2 y2 z2 st2 hQ2
  subst l2 y2 z2
  obtain ⟨ph, pq, rfl, N2q, K2, g_ph, g_pq, ne_ph_pq, ne_mb_ph, ne_mb_pq, F_held_mb, F_queued_mb, E_ph, E_pq, F_max_ph, F_used_ph, F_max_pq, F_used_pq⟩ := hQ2
  have N0 := Fr.app N0 N2q
  have E_mb := E_mb.keep K2
  have Z0 := Nat.le_trans Z0 K2.1
  refine own_step (B := T2.setTop (mkF m 10 #[.val (.long q0), .second, .val (.long q2), .second, .val (.long q4), .second, .val (.long q6), .second, .unset, .unset, .unset, .unset, .unset, .unset, .unset, .unset, .unset, .unset, .unset, .unset, .unset] [(.ref mb)])) (fun t k => st2.trans k) ?_
  refine own_step (B := T2.setTop (mkF m 12 #[.val (.long q0), .second, .val (.long q2), .second, .val (.long q4), .second, .val (.long q6), .second, .val (.ref mb), .unset, .unset, .unset, .unset, .unset, .unset, .unset, .unset, .unset, .unset, .unset, .unset] [])) (fun t k => XS.astore X2.here hx rfl (hb hby at_10) rfl rfl (l' := #[.val (.long q0), .second, .val (.long q2), .second, .val (.long q4), .second, .val (.long q6), .second, .val (.ref mb), .unset, .unset, .unset, .unset, .unset, .unset, .unset, .unset, .unset, .unset, .unset, .unset]) rfl k) ?_
  refine own_step (B := T2.setTop (mkF m 14 #[.val (.long q0), .second, .val (.long q2), .second, .val (.long q4), .second, .val (.long q6), .second, .val (.ref mb), .unset, .unset, .unset, .unset, .unset, .unset, .unset, .unset, .unset, .unset, .unset, .unset] [(.ref mb)])) (fun t k => XS.aload X2.here hx rfl (hb hby at_12) rfl rfl k) ?_
  obtain ⟨cq3, kq3, q3a, q3b, q3c⟩ := isOf hZ rfl E_mb
  obtain ⟨_, _, ⟨T3, L3, k3, n3⟩, -, X3, ⟨Lc3, hQ3, l3, y3, z3⟩, st3⟩ := X2.virtualBack hx (y := (⟨"com/example/loomwire/loomwire/transport/MemoryBudget", "queuedRoom", "()J"⟩ : MethodName)) (z := (⟨"com/example/loomwire/loomwire/transport/MemoryBudget", "queuedRoom", "()J"⟩ : MethodName)) hown (mvT hZ (hw _ (List.mem_of_getElem? (i := 114) rfl))) (mvT hZ (hw _ (List.mem_of_getElem? (i := 115) rfl))) (notFace_of_selects (args := #[]) (mvT hZ (hw _ (List.mem_of_getElem? (i := 117) rfl)))) (mvT hZ (hw _ (List.mem_of_getElem? (i := 117) rfl))) (mvT hZ (hw _ (List.mem_of_getElem? (i := 116) rfl))) (by decide) (backOf (W := 0) (rm16 l Z a0 hw [] mb pq q0 (0 : Int64) T2.heap n0 Z0 F_queued_mb F_max_pq F_used_pq) hZ (hw _ (List.mem_of_getElem? (i := 118) rfl)) (hw _ (List.mem_of_getElem? (i := 2) rfl)) (by decide) (by decide)) q3a q3c (g := (mkF m 14 #[.val (.long q0), .second, .val (.long q2), .second, .val (.long q4), .second, .val (.long q6), .second, .val (.ref mb), .unset, .unset, .unset, .unset, .unset, .unset, .unset, .unset, .unset, .unset, .unset, .unset] [(.ref mb)])) rfl (by rw [hml]; rfl) (Steps.refl _) (argsL := []) (rest := []) (lenOf pd_8 rfl) rfl (by show 2 * 0 + _ ≤ _; exact Nat.le_of_eq rfl) (hb hby at_14) (fun _ _ => ⟨rfl, rfl, (by decide : 7 + 0 ≤ _), (by decide : 31 + 0 ≤ _)⟩)
  dsimp only [Pt.U, Pt.locs, Pt.cells, Pt.slots] at X3 l3 y3 z3 st3 hQ3
  subst l3 y3 z3
  obtain ⟨rfl, N3q, e3⟩ := hQ3
  have N0 := Fr.app N0 N3q
  refine own_step (B := T3.setTop (mkF m 17 #[.val (.long q0), .second, .val (.long q2), .second, .val (.long q4), .second, .val (.long q6), .second, .val (.ref mb), .unset, .unset, .unset, .unset, .unset, .unset, .unset, .unset, .unset, .unset, .unset, .unset] [(.long (q0 - (0 : Int64)))])) (fun t k => st3.trans k) ?_
  refine own_step (B := T3.setTop (mkF m 19 #[.val (.long q0), .second, .val (.long q2), .second, .val (.long q4), .second, .val (.long q6), .second, .val (.ref mb), .val (.long (q0 - (0 : Int64))), .second, .unset, .unset, .unset, .unset, .unset, .unset, .unset, .unset, .unset, .unset] [])) (fun t k => XS.lstore X3.here hx rfl (hb hby at_17) rfl (l' := #[.val (.long q0), .second, .val (.long q2), .second, .val (.long q4), .second, .val (.long q6), .second, .val (.ref mb), .val (.long (q0 - (0 : Int64))), .second, .unset, .unset, .unset, .unset, .unset, .unset, .unset, .unset, .unset, .unset]) rfl k) ?_
  refine own_step (B := T3.setTop (mkF m 21 #[.val (.long q0), .second, .val (.long q2), .second, .val (.long q4), .second, .val (.long q6), .second, .val (.ref mb), .val (.long (q0 - (0 : Int64))), .second, .unset, .unset, .unset, .unset, .unset, .unset, .unset, .unset, .unset, .unset] [(.ref mb)])) (fun t k => XS.aload X3.here hx rfl (hb hby at_19) rfl rfl k) ?_
  have lt_mb := E_mb.lt
  have lt_ph := E_ph.lt
  have lt_pq := E_pq.lt
  obtain ⟨cq4, kq4, q4a, q4b, q4c⟩ := isOf hZ e3 E_mb
  obtain ⟨_, _, ⟨T4, L4, k4, n4⟩, -, X4, ⟨Lc4, hQ4, l4, y4, z4⟩, st4⟩ := X3.virtualBack hx (y := (⟨"com/example/loomwire/loomwire/transport/MemoryBudget", "queuedAccount", "()Lcom/example/loomwire/loomwire/transport/MemoryBudget$Account;"⟩ : MethodName)) (z := (⟨"com/example/loomwire/loomwire/transport/MemoryBudget", "queuedAccount", "()Lcom/example/loomwire/loomwire/transport/MemoryBudget$Account;"⟩ : MethodName)) hown (mvT hZ (hw _ (List.mem_of_getElem? (i := 122) rfl))) (mvT hZ (hw _ (List.mem_of_getElem? (i := 123) rfl))) (notFace_of_selects (args := #[]) (mvT hZ (hw _ (List.mem_of_getElem? (i := 125) rfl)))) (mvT hZ (hw _ (List.mem_of_getElem? (i := 125) rfl))) (mvT hZ (hw _ (List.mem_of_getElem? (i := 124) rfl))) (by decide) (backOf (W := 0) (rm17 l Z a0 hw [] mb _ T2.heap n0 Z0 F_queued_mb) hZ (hw _ (List.mem_of_getElem? (i := 126) rfl)) (hw _ (List.mem_of_getElem? (i := 2) rfl)) (by decide) (by decide)) q4a q4c (g := (mkF m 21 #[.val (.long q0), .second, .val (.long q2), .second, .val (.long q4), .second, .val (.long q6), .second, .val (.ref mb), .val (.long (q0 - (0 : Int64))), .second, .unset, .unset, .unset, .unset, .unset, .unset, .unset, .unset, .unset, .unset] [(.ref mb)])) rfl (by rw [hml]; rfl) (Steps.refl _) (argsL := []) (rest := []) (lenOf pd_9 rfl) rfl (by show 2 * 0 + _ ≤ _; exact Nat.le_of_eq rfl) (hb hby at_21) (fun _ _ => ⟨rfl, e3, (by decide : 7 + 1 ≤ _), (by decide : 31 + 3 ≤ _)⟩)
  dsimp only [Pt.U, Pt.locs, Pt.cells, Pt.slots] at X4 l4 y4 z4 st4 hQ4
  subst l4 y4 z4
  obtain ⟨qa, rfl, N4q, K4, g_qa, sz_qa, E_qa, F_pool_qa, F_taken_qa, F_closed_qa⟩ := hQ4
  have N0 := Fr.app N0 N4q
  have E_mb := E_mb.keep K4
  have E_ph := E_ph.keep K4
  have E_pq := E_pq.keep K4
  have F_held_mb := F_held_mb.keep K4 nin0
  have F_queued_mb := F_queued_mb.keep K4 nin0
  have F_max_ph := F_max_ph.keep K4 nin0
  have F_used_ph := F_used_ph.keep K4 nin0
  have F_max_pq := F_max_pq.keep K4 nin0
  have F_used_pq := F_used_pq.keep K4 nin0
  have Z0 := Nat.le_trans Z0 K4.1
  have ne_mb_qa : mb ≠ qa := Nat.ne_of_lt (Nat.lt_of_lt_of_le lt_mb sz_qa)
  have ne_ph_qa : ph ≠ qa := Nat.ne_of_lt (Nat.lt_of_lt_of_le lt_ph sz_qa)
  have ne_pq_qa : pq ≠ qa := Nat.ne_of_lt (Nat.lt_of_lt_of_le lt_pq sz_qa)
  refine own_step (B := T4.setTop (mkF m 24 #[.val (.long q0), .second, .val (.long q2), .second, .val (.long q4), .second, .val (.long q6), .second, .val (.ref mb), .val (.long (q0 - (0 : Int64))), .second, .unset, .unset, .unset, .unset, .unset, .unset, .unset, .unset, .unset, .unset] [(.ref qa)])) (fun t k => st4.trans k) ?_
  refine own_step (B := T4.setTop (mkF m 26 #[.val (.long q0), .second, .val (.long q2), .second, .val (.long q4), .second, .val (.long q6), .second, .val (.ref mb), .val (.long (q0 - (0 : Int64))), .second, .val (.ref qa), .unset, .unset, .unset, .unset, .unset, .unset, .unset, .unset, .unset] [])) (fun t k => XS.astore X4.here hx rfl (hb hby at_24) rfl rfl (l' := #[.val (.long q0), .second, .val (.long q2), .second, .val (.long q4), .second, .val (.long q6), .second, .val (.ref mb), .val (.long (q0 - (0 : Int64))), .second, .val (.ref qa), .unset, .unset, .unset, .unset, .unset, .unset, .unset, .unset, .unset]) rfl k) ?_
  refine own_step (B := T4.setTop (mkF m 28 #[.val (.long q0), .second, .val (.long q2), .second, .val (.long q4), .second, .val (.long q6), .second, .val (.ref mb), .val (.long (q0 - (0 : Int64))), .second, .val (.ref qa), .unset, .unset, .unset, .unset, .unset, .unset, .unset, .unset, .unset] [(.ref qa)])) (fun t k => XS.aload X4.here hx rfl (hb hby at_26) rfl rfl k) ?_
  refine own_step (B := T4.setTop (mkF m 30 #[.val (.long q0), .second, .val (.long q2), .second, .val (.long q4), .second, .val (.long q6), .second, .val (.ref mb), .val (.long (q0 - (0 : Int64))), .second, .val (.ref qa), .unset, .unset, .unset, .unset, .unset, .unset, .unset, .unset, .unset] [(.long q4), (.ref qa)])) (fun t k => XS.lload X4.here hx rfl (hb hby at_28) rfl k) ?_
  obtain ⟨cq5, kq5, q5a, q5b, q5c⟩ := isOf hZ rfl E_qa
  obtain ⟨_, _, ⟨T5, L5, k5, n5⟩, -, X5, ⟨Lc5, hQ5, l5, y5, z5⟩, st5⟩ := X4.virtualBack hx (y := (⟨"com/example/loomwire/loomwire/transport/MemoryBudget$Account", "force", "(J)V"⟩ : MethodName)) (z := (⟨"com/example/loomwire/loomwire/transport/MemoryBudget$Account", "force", "(J)V"⟩ : MethodName)) hown (mvT hZ (hw _ (List.mem_of_getElem? (i := 136) rfl))) (mvT hZ (hw _ (List.mem_of_getElem? (i := 137) rfl))) (notFace_of_selects (args := #[]) (mvT hZ (hw _ (List.mem_of_getElem? (i := 139) rfl)))) (mvT hZ (hw _ (List.mem_of_getElem? (i := 139) rfl))) (mvT hZ (hw _ (List.mem_of_getElem? (i := 138) rfl))) (by decide) (backOf (W := 0) (rm19 l Z a0 hw [] qa q4 pq (0 : Int64) (0 : Int64) q0 T4.heap n0 Z0 E_qa E_pq g_qa g_pq (Ne.symm ne_pq_qa) F_pool_qa F_taken_qa F_closed_qa F_used_pq F_max_pq) hZ (hw _ (List.mem_of_getElem? (i := 140) rfl)) (hw _ (List.mem_of_getElem? (i := 129) rfl)) (by decide) (by decide)) q5a q5c (g := (mkF m 30 #[.val (.long q0), .second, .val (.long q2), .second, .val (.long q4), .second, .val (.long q6), .second, .val (.ref mb), .val (.long (q0 - (0 : Int64))), .second, .val (.ref qa), .unset, .unset, .unset, .unset, .unset, .unset, .unset, .unset, .unset] [(.long q4), (.ref qa)])) rfl (by rw [hml]; rfl) (Steps.refl _) (argsL := [(.long q4)]) (rest := []) (lenOf pd_5 rfl) rfl (by show 2 * 0 + _ ≤ _; exact Nat.le_of_eq rfl) (hb hby at_30) (fun _ _ => ⟨rfl, rfl, (by decide : 8 + 0 ≤ _), (by decide : 34 + 0 ≤ _)⟩)
  dsimp only [Pt.U, Pt.locs, Pt.cells, Pt.slots] at X5 l5 y5 z5 st5 hQ5
  subst l5 y5 z5
  obtain ⟨rfl, N5q, K5, G0_5, G1_5, G2_5, G3_5, G4_5⟩ := hQ5
  have N0 := Fr.app N0 N5q
  have E_mb := E_mb.keep K5
  have E_ph := E_ph.keep K5
  have E_pq := E_pq.keep K5
  have F_held_mb := F_held_mb.keep K5 (ninS ne_mb_qa (ninS ne_mb_pq nin0))
  have F_queued_mb := F_queued_mb.keep K5 (ninS ne_mb_qa (ninS ne_mb_pq nin0))
  have F_max_ph := F_max_ph.keep K5 (ninS ne_ph_qa (ninS ne_ph_pq nin0))
  have F_used_ph := F_used_ph.keep K5 (ninS ne_ph_qa (ninS ne_ph_pq nin0))
  have E_qa := E_qa.keep K5
  have Z0 := Nat.le_trans Z0 K5.1
  have F_used_pq := G0_5
  have F_taken_qa := G1_5
  have F_closed_qa := G2_5
  have F_pool_qa := G3_5
  have F_max_pq := G4_5
  refine own_step (B := T5.setTop (mkF m 33 #[.val (.long q0), .second, .val (.long q2), .second, .val (.long q4), .second, .val (.long q6), .second, .val (.ref mb), .val (.long (q0 - (0 : Int64))), .second, .val (.ref qa), .unset, .unset, .unset, .unset, .unset, .unset, .unset, .unset, .unset] [])) (fun t k => st5.trans k) ?_
  refine own_step (B := T5.setTop (mkF m 35 #[.val (.long q0), .second, .val (.long q2), .second, .val (.long q4), .second, .val (.long q6), .second, .val (.ref mb), .val (.long (q0 - (0 : Int64))), .second, .val (.ref qa), .unset, .unset, .unset, .unset, .unset, .unset, .unset, .unset, .unset] [(.ref mb)])) (fun t k => XS.aload X5.here hx rfl (hb hby at_33) rfl rfl k) ?_
  obtain ⟨cq6, kq6, q6a, q6b, q6c⟩ := isOf hZ rfl E_mb
  obtain ⟨_, _, ⟨T6, L6, k6, n6⟩, -, X6, ⟨Lc6, hQ6, l6, y6, z6⟩, st6⟩ := X5.virtualBack hx (y := (⟨"com/example/loomwire/loomwire/transport/MemoryBudget", "queuedRoom", "()J"⟩ : MethodName)) (z := (⟨"com/example/loomwire/loomwire/transport/MemoryBudget", "queuedRoom", "()J"⟩ : MethodName)) hown (mvT hZ (hw _ (List.mem_of_getElem? (i := 114) rfl))) (mvT hZ (hw _ (List.mem_of_getElem? (i := 115) rfl))) (notFace_of_selects (args := #[]) (mvT hZ (hw _ (List.mem_of_getElem? (i := 117) rfl)))) (mvT hZ (hw _ (List.mem_of_getElem? (i := 117) rfl))) (mvT hZ (hw _ (List.mem_of_getElem? (i := 116) rfl))) (by decide) (backOf (W := 0) (rm16 l Z a0 hw [] mb pq q0 ((0 : Int64) + q4) T5.heap n0 Z0 F_queued_mb F_max_pq F_used_pq) hZ (hw _ (List.mem_of_getElem? (i := 118) rfl)) (hw _ (List.mem_of_getElem? (i := 2) rfl)) (by decide) (by decide)) q6a q6c (g := (mkF m 35 #[.val (.long q0), .second, .val (.long q2), .second, .val (.long q4), .second, .val (.long q6), .second, .val (.ref mb), .val (.long (q0 - (0 : Int64))), .second, .val (.ref qa), .unset, .unset, .unset, .unset, .unset, .unset, .unset, .unset, .unset] [(.ref mb)])) rfl (by rw [hml]; rfl) (Steps.refl _) (argsL := []) (rest := []) (lenOf pd_8 rfl) rfl (by show 2 * 0 + _ ≤ _; exact Nat.le_of_eq rfl) (hb hby at_35) (fun _ _ => ⟨rfl, rfl, (by decide : 8 + 0 ≤ _), (by decide : 34 + 0 ≤ _)⟩)
  dsimp only [Pt.U, Pt.locs, Pt.cells, Pt.slots] at X6 l6 y6 z6 st6 hQ6
  subst l6 y6 z6
  obtain ⟨rfl, N6q, e6⟩ := hQ6
  have N0 := Fr.app N0 N6q
  refine own_step (B := T6.setTop (mkF m 38 #[.val (.long q0), .second, .val (.long q2), .second, .val (.long q4), .second, .val (.long q6), .second, .val (.ref mb), .val (.long (q0 - (0 : Int64))), .second, .val (.ref qa), .unset, .unset, .unset, .unset, .unset, .unset, .unset, .unset, .unset] [(.long (q0 - ((0 : Int64) + q4)))])) (fun t k => st6.trans k) ?_
  refine own_step (B := T6.setTop (mkF m 40 #[.val (.long q0), .second, .val (.long q2), .second, .val (.long q4), .second, .val (.long q6), .second, .val (.ref mb), .val (.long (q0 - (0 : Int64))), .second, .val (.ref qa), .val (.long (q0 - ((0 : Int64) + q4))), .second, .unset, .unset, .unset, .unset, .unset, .unset, .unset] [])) (fun t k => XS.lstore X6.here hx rfl (hb hby at_38) rfl (l' := #[.val (.long q0), .second, .val (.long q2), .second, .val (.long q4), .second, .val (.long q6), .second, .val (.ref mb), .val (.long (q0 - (0 : Int64))), .second, .val (.ref qa), .val (.long (q0 - ((0 : Int64) + q4))), .second, .unset, .unset, .unset, .unset, .unset, .unset, .unset]) rfl k) ?_
  refine own_step (B := T6.setTop (mkF m 42 #[.val (.long q0), .second, .val (.long q2), .second, .val (.long q4), .second, .val (.long q6), .second, .val (.ref mb), .val (.long (q0 - (0 : Int64))), .second, .val (.ref qa), .val (.long (q0 - ((0 : Int64) + q4))), .second, .unset, .unset, .unset, .unset, .unset, .unset, .unset] [(.ref mb)])) (fun t k => XS.aload X6.here hx rfl (hb hby at_40) rfl rfl k) ?_
  have lt_mb := E_mb.lt
  have lt_ph := E_ph.lt
  have lt_pq := E_pq.lt
  have lt_qa := E_qa.lt
  obtain ⟨cq7, kq7, q7a, q7b, q7c⟩ := isOf hZ e6 E_mb
  obtain ⟨_, _, ⟨T7, L7, k7, n7⟩, -, X7, ⟨Lc7, hQ7, l7, y7, z7⟩, st7⟩ := X6.virtualBack hx (y := (⟨"com/example/loomwire/loomwire/transport/MemoryBudget", "heldAccount", "()Lcom/example/loomwire/loomwire/transport/MemoryBudget$Account;"⟩ : MethodName)) (z := (⟨"com/example/loomwire/loomwire/transport/MemoryBudget", "heldAccount", "()Lcom/example/loomwire/loomwire/transport/MemoryBudget$Account;"⟩ : MethodName)) hown (mvT hZ (hw _ (List.mem_of_getElem? (i := 146) rfl))) (mvT hZ (hw _ (List.mem_of_getElem? (i := 147) rfl))) (notFace_of_selects (args := #[]) (mvT hZ (hw _ (List.mem_of_getElem? (i := 149) rfl)))) (mvT hZ (hw _ (List.mem_of_getElem? (i := 149) rfl))) (mvT hZ (hw _ (List.mem_of_getElem? (i := 148) rfl))) (by decide) (backOf (W := 0) (rm20 l Z a0 hw [] mb _ T5.heap n0 Z0 F_held_mb) hZ (hw _ (List.mem_of_getElem? (i := 150) rfl)) (hw _ (List.mem_of_getElem? (i := 2) rfl)) (by decide) (by decide)) q7a q7c (g := (mkF m 42 #[.val (.long q0), .second, .val (.long q2), .second, .val (.long q4), .second, .val (.long q6), .second, .val (.ref mb), .val (.long (q0 - (0 : Int64))), .second, .val (.ref qa), .val (.long (q0 - ((0 : Int64) + q4))), .second, .unset, .unset, .unset, .unset, .unset, .unset, .unset] [(.ref mb)])) rfl (by rw [hml]; rfl) (Steps.refl _) (argsL := []) (rest := []) (lenOf pd_9 rfl) rfl (by show 2 * 0 + _ ≤ _; exact Nat.le_of_eq rfl) (hb hby at_42) (fun _ _ => ⟨rfl, e6, (by decide : 8 + 1 ≤ _), (by decide : 34 + 3 ≤ _)⟩)
  dsimp only [Pt.U, Pt.locs, Pt.cells, Pt.slots] at X7 l7 y7 z7 st7 hQ7
  subst l7 y7 z7
  obtain ⟨ha, rfl, N7q, K7, g_ha, sz_ha, E_ha, F_pool_ha, F_taken_ha, F_closed_ha⟩ := hQ7
  have N0 := Fr.app N0 N7q
  have E_mb := E_mb.keep K7
  have E_ph := E_ph.keep K7
  have E_pq := E_pq.keep K7
  have F_held_mb := F_held_mb.keep K7 nin0
  have F_queued_mb := F_queued_mb.keep K7 nin0
  have F_max_ph := F_max_ph.keep K7 nin0
  have F_used_ph := F_used_ph.keep K7 nin0
  have E_qa := E_qa.keep K7
  have F_used_pq := F_used_pq.keep K7 nin0
  have F_taken_qa := F_taken_qa.keep K7 nin0
  have F_closed_qa := F_closed_qa.keep K7 nin0
  have F_pool_qa := F_pool_qa.keep K7 nin0
  have F_max_pq := F_max_pq.keep K7 nin0
  have Z0 := Nat.le_trans Z0 K7.1
  have ne_mb_ha : mb ≠ ha := Nat.ne_of_lt (Nat.lt_of_lt_of_le lt_mb sz_ha)
  have ne_ph_ha : ph ≠ ha := Nat.ne_of_lt (Nat.lt_of_lt_of_le lt_ph sz_ha)
  have ne_pq_ha : pq ≠ ha := Nat.ne_of_lt (Nat.lt_of_lt_of_le lt_pq sz_ha)
  have ne_qa_ha : qa ≠ ha := Nat.ne_of_lt (Nat.lt_of_lt_of_le lt_qa sz_ha)
  refine own_step (B := T7.setTop (mkF m 45 #[.val (.long q0), .second, .val (.long q2), .second, .val (.long q4), .second, .val (.long q6), .second, .val (.ref mb), .val (.long (q0 - (0 : Int64))), .second, .val (.ref qa), .val (.long (q0 - ((0 : Int64) + q4))), .second, .unset, .unset, .unset, .unset, .unset, .unset, .unset] [(.ref ha)])) (fun t k => st7.trans k) ?_
  refine own_step (B := T7.setTop (mkF m 47 #[.val (.long q0), .second, .val (.long q2), .second, .val (.long q4), .second, .val (.long q6), .second, .val (.ref mb), .val (.long (q0 - (0 : Int64))), .second, .val (.ref qa), .val (.long (q0 - ((0 : Int64) + q4))), .second, .val (.ref ha), .unset, .unset, .unset, .unset, .unset, .unset] [])) (fun t k => XS.astore X7.here hx rfl (hb hby at_45) rfl rfl (l' := #[.val (.long q0), .second, .val (.long q2), .second, .val (.long q4), .second, .val (.long q6), .second, .val (.ref mb), .val (.long (q0 - (0 : Int64))), .second, .val (.ref qa), .val (.long (q0 - ((0 : Int64) + q4))), .second, .val (.ref ha), .unset, .unset, .unset, .unset, .unset, .unset]) rfl k) ?_
  refine own_step (B := T7.setTop (mkF m 49 #[.val (.long q0), .second, .val (.long q2), .second, .val (.long q4), .second, .val (.long q6), .second, .val (.ref mb), .val (.long (q0 - (0 : Int64))), .second, .val (.ref qa), .val (.long (q0 - ((0 : Int64) + q4))), .second, .val (.ref ha), .unset, .unset, .unset, .unset, .unset, .unset] [(.ref ha)])) (fun t k => XS.aload X7.here hx rfl (hb hby at_47) rfl rfl k) ?_
  refine own_step (B := T7.setTop (mkF m 51 #[.val (.long q0), .second, .val (.long q2), .second, .val (.long q4), .second, .val (.long q6), .second, .val (.ref mb), .val (.long (q0 - (0 : Int64))), .second, .val (.ref qa), .val (.long (q0 - ((0 : Int64) + q4))), .second, .val (.ref ha), .unset, .unset, .unset, .unset, .unset, .unset] [(.long q6), (.ref ha)])) (fun t k => XS.lload X7.here hx rfl (hb hby at_49) rfl k) ?_
  obtain ⟨cq8, kq8, q8a, q8b, q8c⟩ := isOf hZ rfl E_ha
  obtain ⟨_, _, ⟨T8, L8, k8, n8⟩, -, X8, ⟨Lc8, hQ8, l8, y8, z8⟩, st8⟩ := X7.virtualBack hx (y := (⟨"com/example/loomwire/loomwire/transport/MemoryBudget$Account", "force", "(J)V"⟩ : MethodName)) (z := (⟨"com/example/loomwire/loomwire/transport/MemoryBudget$Account", "force", "(J)V"⟩ : MethodName)) hown (mvT hZ (hw _ (List.mem_of_getElem? (i := 136) rfl))) (mvT hZ (hw _ (List.mem_of_getElem? (i := 137) rfl))) (notFace_of_selects (args := #[]) (mvT hZ (hw _ (List.mem_of_getElem? (i := 139) rfl)))) (mvT hZ (hw _ (List.mem_of_getElem? (i := 139) rfl))) (mvT hZ (hw _ (List.mem_of_getElem? (i := 138) rfl))) (by decide) (backOf (W := 0) (rm19 l Z a0 hw [] ha q6 ph (0 : Int64) (0 : Int64) q2 T7.heap n0 Z0 E_ha E_ph g_ha g_ph (Ne.symm ne_ph_ha) F_pool_ha F_taken_ha F_closed_ha F_used_ph F_max_ph) hZ (hw _ (List.mem_of_getElem? (i := 140) rfl)) (hw _ (List.mem_of_getElem? (i := 129) rfl)) (by decide) (by decide)) q8a q8c (g := (mkF m 51 #[.val (.long q0), .second, .val (.long q2), .second, .val (.long q4), .second, .val (.long q6), .second, .val (.ref mb), .val (.long (q0 - (0 : Int64))), .second, .val (.ref qa), .val (.long (q0 - ((0 : Int64) + q4))), .second, .val (.ref ha), .unset, .unset, .unset, .unset, .unset, .unset] [(.long q6), (.ref ha)])) rfl (by rw [hml]; rfl) (Steps.refl _) (argsL := [(.long q6)]) (rest := []) (lenOf pd_5 rfl) rfl (by show 2 * 0 + _ ≤ _; exact Nat.le_of_eq rfl) (hb hby at_51) (fun _ _ => ⟨rfl, rfl, (by decide : 9 + 0 ≤ _), (by decide : 37 + 0 ≤ _)⟩)
  dsimp only [Pt.U, Pt.locs, Pt.cells, Pt.slots] at X8 l8 y8 z8 st8 hQ8
  subst l8 y8 z8
  obtain ⟨rfl, N8q, K8, G0_8, G1_8, G2_8, G3_8, G4_8⟩ := hQ8
  have N0 := Fr.app N0 N8q
  have E_mb := E_mb.keep K8
  have E_ph := E_ph.keep K8
  have E_pq := E_pq.keep K8
  have F_held_mb := F_held_mb.keep K8 (ninS ne_mb_ha (ninS ne_mb_ph nin0))
  have F_queued_mb := F_queued_mb.keep K8 (ninS ne_mb_ha (ninS ne_mb_ph nin0))
  have E_qa := E_qa.keep K8
  have F_used_pq := F_used_pq.keep K8 (ninS ne_pq_ha (ninS (Ne.symm ne_ph_pq) nin0))
  have F_taken_qa := F_taken_qa.keep K8 (ninS ne_qa_ha (ninS (Ne.symm ne_ph_qa) nin0))
  have F_closed_qa := F_closed_qa.keep K8 (ninS ne_qa_ha (ninS (Ne.symm ne_ph_qa) nin0))
  have F_pool_qa := F_pool_qa.keep K8 (ninS ne_qa_ha (ninS (Ne.symm ne_ph_qa) nin0))
  have F_max_pq := F_max_pq.keep K8 (ninS ne_pq_ha (ninS (Ne.symm ne_ph_pq) nin0))
  have E_ha := E_ha.keep K8
  have Z0 := Nat.le_trans Z0 K8.1
  have F_used_ph := G0_8
  have F_taken_ha := G1_8
  have F_closed_ha := G2_8
  have F_pool_ha := G3_8
  have F_max_ph := G4_8
  refine own_step (B := T8.setTop (mkF m 54 #[.val (.long q0), .second, .val (.long q2), .second, .val (.long q4), .second, .val (.long q6), .second, .val (.ref mb), .val (.long (q0 - (0 : Int64))), .second, .val (.ref qa), .val (.long (q0 - ((0 : Int64) + q4))), .second, .val (.ref ha), .unset, .unset, .unset, .unset, .unset, .unset] [])) (fun t k => st8.trans k) ?_
  refine own_step (B := T8.setTop (mkF m 56 #[.val (.long q0), .second, .val (.long q2), .second, .val (.long q4), .second, .val (.long q6), .second, .val (.ref mb), .val (.long (q0 - (0 : Int64))), .second, .val (.ref qa), .val (.long (q0 - ((0 : Int64) + q4))), .second, .val (.ref ha), .unset, .unset, .unset, .unset, .unset, .unset] [(.ref mb)])) (fun t k => XS.aload X8.here hx rfl (hb hby at_54) rfl rfl k) ?_
  obtain ⟨cq9, kq9, q9a, q9b, q9c⟩ := isOf hZ rfl E_mb
  obtain ⟨_, _, ⟨T9, L9, k9, n9⟩, -, X9, ⟨Lc9, hQ9, l9, y9, z9⟩, st9⟩ := X8.virtualBack hx (y := (⟨"com/example/loomwire/loomwire/transport/MemoryBudget", "queuedRoom", "()J"⟩ : MethodName)) (z := (⟨"com/example/loomwire/loomwire/transport/MemoryBudget", "queuedRoom", "()J"⟩ : MethodName)) hown (mvT hZ (hw _ (List.mem_of_getElem? (i := 114) rfl))) (mvT hZ (hw _ (List.mem_of_getElem? (i := 115) rfl))) (notFace_of_selects (args := #[]) (mvT hZ (hw _ (List.mem_of_getElem? (i := 117) rfl)))) (mvT hZ (hw _ (List.mem_of_getElem? (i := 117) rfl))) (mvT hZ (hw _ (List.mem_of_getElem? (i := 116) rfl))) (by decide) (backOf (W := 0) (rm16 l Z a0 hw [] mb pq q0 ((0 : Int64) + q4) T8.heap n0 Z0 F_queued_mb F_max_pq F_used_pq) hZ (hw _ (List.mem_of_getElem? (i := 118) rfl)) (hw _ (List.mem_of_getElem? (i := 2) rfl)) (by decide) (by decide)) q9a q9c (g := (mkF m 56 #[.val (.long q0), .second, .val (.long q2), .second, .val (.long q4), .second, .val (.long q6), .second, .val (.ref mb), .val (.long (q0 - (0 : Int64))), .second, .val (.ref qa), .val (.long (q0 - ((0 : Int64) + q4))), .second, .val (.ref ha), .unset, .unset, .unset, .unset, .unset, .unset] [(.ref mb)])) rfl (by rw [hml]; rfl) (Steps.refl _) (argsL := []) (rest := []) (lenOf pd_8 rfl) rfl (by show 2 * 0 + _ ≤ _; exact Nat.le_of_eq rfl) (hb hby at_56) (fun _ _ => ⟨rfl, rfl, (by decide : 9 + 0 ≤ _), (by decide : 37 + 0 ≤ _)⟩)
  dsimp only [Pt.U, Pt.locs, Pt.cells, Pt.slots] at X9 l9 y9 z9 st9 hQ9
  subst l9 y9 z9
  obtain ⟨rfl, N9q, e9⟩ := hQ9
  have N0 := Fr.app N0 N9q
  refine own_step (B := T9.setTop (mkF m 59 #[.val (.long q0), .second, .val (.long q2), .second, .val (.long q4), .second, .val (.long q6), .second, .val (.ref mb), .val (.long (q0 - (0 : Int64))), .second, .val (.ref qa), .val (.long (q0 - ((0 : Int64) + q4))), .second, .val (.ref ha), .unset, .unset, .unset, .unset, .unset, .unset] [(.long (q0 - ((0 : Int64) + q4)))])) (fun t k => st9.trans k) ?_
  refine own_step (B := T9.setTop (mkF m 61 #[.val (.long q0), .second, .val (.long q2), .second, .val (.long q4), .second, .val (.long q6), .second, .val (.ref mb), .val (.long (q0 - (0 : Int64))), .second, .val (.ref qa), .val (.long (q0 - ((0 : Int64) + q4))), .second, .val (.ref ha), .val (.long (q0 - ((0 : Int64) + q4))), .second, .unset, .unset, .unset, .unset] [])) (fun t k => XS.lstore X9.here hx rfl (hb hby at_59) rfl (l' := #[.val (.long q0), .second, .val (.long q2), .second, .val (.long q4), .second, .val (.long q6), .second, .val (.ref mb), .val (.long (q0 - (0 : Int64))), .second, .val (.ref qa), .val (.long (q0 - ((0 : Int64) + q4))), .second, .val (.ref ha), .val (.long (q0 - ((0 : Int64) + q4))), .second, .unset, .unset, .unset, .unset]) rfl k) ?_
  refine own_step (B := T9.setTop (mkF m 63 #[.val (.long q0), .second, .val (.long q2), .second, .val (.long q4), .second, .val (.long q6), .second, .val (.ref mb), .val (.long (q0 - (0 : Int64))), .second, .val (.ref qa), .val (.long (q0 - ((0 : Int64) + q4))), .second, .val (.ref ha), .val (.long (q0 - ((0 : Int64) + q4))), .second, .unset, .unset, .unset, .unset] [(.ref qa)])) (fun t k => XS.aload X9.here hx rfl (hb hby at_61) rfl rfl k) ?_
  obtain ⟨cq10, kq10, q10a, q10b, q10c⟩ := isOf hZ e9 E_qa
  obtain ⟨_, _, ⟨T10, L10, k10, n10⟩, -, X10, ⟨Lc10, hQ10, l10, y10, z10⟩, st10⟩ := X9.virtualBack hx (y := (⟨"com/example/loomwire/loomwire/transport/MemoryBudget$Account", "close", "()V"⟩ : MethodName)) (z := (⟨"com/example/loomwire/loomwire/transport/MemoryBudget$Account", "close", "()V"⟩ : MethodName)) hown (mvT hZ (hw _ (List.mem_of_getElem? (i := 151) rfl))) (mvT hZ (hw _ (List.mem_of_getElem? (i := 152) rfl))) (notFace_of_selects (args := #[]) (mvT hZ (hw _ (List.mem_of_getElem? (i := 154) rfl)))) (mvT hZ (hw _ (List.mem_of_getElem? (i := 154) rfl))) (mvT hZ (hw _ (List.mem_of_getElem? (i := 153) rfl))) (by decide) (backOf (W := 0) (rm21 l Z a0 hw [] qa pq ((0 : Int64) + q4) ((0 : Int64) + q4) q0 T8.heap n0 Z0 E_qa E_pq g_qa g_pq (Ne.symm ne_pq_qa) F_pool_qa F_taken_qa F_closed_qa F_used_pq F_max_pq) hZ (hw _ (List.mem_of_getElem? (i := 155) rfl)) (hw _ (List.mem_of_getElem? (i := 129) rfl)) (by decide) (by decide)) q10a q10c (g := (mkF m 63 #[.val (.long q0), .second, .val (.long q2), .second, .val (.long q4), .second, .val (.long q6), .second, .val (.ref mb), .val (.long (q0 - (0 : Int64))), .second, .val (.ref qa), .val (.long (q0 - ((0 : Int64) + q4))), .second, .val (.ref ha), .val (.long (q0 - ((0 : Int64) + q4))), .second, .unset, .unset, .unset, .unset] [(.ref qa)])) rfl (by rw [hml]; rfl) (Steps.refl _) (argsL := []) (rest := []) (lenOf pd_0 rfl) rfl (by show 2 * 0 + _ ≤ _; exact Nat.le_of_eq rfl) (hb hby at_63) (fun _ _ => ⟨rfl, e9, (by decide : 9 + 0 ≤ _), (by decide : 37 + 0 ≤ _)⟩)
  dsimp only [Pt.U, Pt.locs, Pt.cells, Pt.slots] at X10 l10 y10 z10 st10 hQ10
  subst l10 y10 z10
  obtain ⟨rfl, N10q, K10, G0_10, G1_10, G2_10, G3_10, G4_10⟩ := hQ10
  have N0 := Fr.app N0 N10q
  have E_mb := E_mb.keep K10
  have E_ph := E_ph.keep K10
  have E_pq := E_pq.keep K10
  have F_held_mb := F_held_mb.keep K10 (ninS ne_mb_qa (ninS ne_mb_pq nin0))
  have F_queued_mb := F_queued_mb.keep K10 (ninS ne_mb_qa (ninS ne_mb_pq nin0))
  have E_qa := E_qa.keep K10
  have E_ha := E_ha.keep K10
  have F_used_ph := F_used_ph.keep K10 (ninS ne_ph_qa (ninS ne_ph_pq nin0))
  have F_taken_ha := F_taken_ha.keep K10 (ninS (Ne.symm ne_qa_ha) (ninS (Ne.symm ne_pq_ha) nin0))
  have F_closed_ha := F_closed_ha.keep K10 (ninS (Ne.symm ne_qa_ha) (ninS (Ne.symm ne_pq_ha) nin0))
  have F_pool_ha := F_pool_ha.keep K10 (ninS (Ne.symm ne_qa_ha) (ninS (Ne.symm ne_pq_ha) nin0))
  have F_max_ph := F_max_ph.keep K10 (ninS ne_ph_qa (ninS ne_ph_pq nin0))
  have Z0 := Nat.le_trans Z0 K10.1
  have F_used_pq := G0_10
  have F_taken_qa := G1_10
  have F_closed_qa := G2_10
  have F_pool_qa := G3_10
  have F_max_pq := G4_10
  refine own_step (B := T10.setTop (mkF m 66 #[.val (.long q0), .second, .val (.long q2), .second, .val (.long q4), .second, .val (.long q6), .second, .val (.ref mb), .val (.long (q0 - (0 : Int64))), .second, .val (.ref qa), .val (.long (q0 - ((0 : Int64) + q4))), .second, .val (.ref ha), .val (.long (q0 - ((0 : Int64) + q4))), .second, .unset, .unset, .unset, .unset] [])) (fun t k => st10.trans k) ?_
  refine own_step (B := T10.setTop (mkF m 68 #[.val (.long q0), .second, .val (.long q2), .second, .val (.long q4), .second, .val (.long q6), .second, .val (.ref mb), .val (.long (q0 - (0 : Int64))), .second, .val (.ref qa), .val (.long (q0 - ((0 : Int64) + q4))), .second, .val (.ref ha), .val (.long (q0 - ((0 : Int64) + q4))), .second, .unset, .unset, .unset, .unset] [(.ref mb)])) (fun t k => XS.aload X10.here hx rfl (hb hby at_66) rfl rfl k) ?_
  obtain ⟨cq11, kq11, q11a, q11b, q11c⟩ := isOf hZ rfl E_mb
  obtain ⟨_, _, ⟨T11, L11, k11, n11⟩, -, X11, ⟨Lc11, hQ11, l11, y11, z11⟩, st11⟩ := X10.virtualBack hx (y := (⟨"com/example/loomwire/loomwire/transport/MemoryBudget", "queuedRoom", "()J"⟩ : MethodName)) (z := (⟨"com/example/loomwire/loomwire/transport/MemoryBudget", "queuedRoom", "()J"⟩ : MethodName)) hown (mvT hZ (hw _ (List.mem_of_getElem? (i := 114) rfl))) (mvT hZ (hw _ (List.mem_of_getElem? (i := 115) rfl))) (notFace_of_selects (args := #[]) (mvT hZ (hw _ (List.mem_of_getElem? (i := 117) rfl)))) (mvT hZ (hw _ (List.mem_of_getElem? (i := 117) rfl))) (mvT hZ (hw _ (List.mem_of_getElem? (i := 116) rfl))) (by decide) (backOf (W := 0) (rm16 l Z a0 hw [] mb pq q0 (((0 : Int64) + q4) - ((0 : Int64) + q4)) T10.heap n0 Z0 F_queued_mb F_max_pq F_used_pq) hZ (hw _ (List.mem_of_getElem? (i := 118) rfl)) (hw _ (List.mem_of_getElem? (i := 2) rfl)) (by decide) (by decide)) q11a q11c (g := (mkF m 68 #[.val (.long q0), .second, .val (.long q2), .second, .val (.long q4), .second, .val (.long q6), .second, .val (.ref mb), .val (.long (q0 - (0 : Int64))), .second, .val (.ref qa), .val (.long (q0 - ((0 : Int64) + q4))), .second, .val (.ref ha), .val (.long (q0 - ((0 : Int64) + q4))), .second, .unset, .unset, .unset, .unset] [(.ref mb)])) rfl (by rw [hml]; rfl) (Steps.refl _) (argsL := []) (rest := []) (lenOf pd_8 rfl) rfl (by show 2 * 0 + _ ≤ _; exact Nat.le_of_eq rfl) (hb hby at_68) (fun _ _ => ⟨rfl, rfl, (by decide : 9 + 0 ≤ _), (by decide : 37 + 0 ≤ _)⟩)
  dsimp only [Pt.U, Pt.locs, Pt.cells, Pt.slots] at X11 l11 y11 z11 st11 hQ11
  subst l11 y11 z11
  obtain ⟨rfl, N11q, e11⟩ := hQ11
  have N0 := Fr.app N0 N11q
  refine own_step (B := T11.setTop (mkF m 71 #[.val (.long q0), .second, .val (.long q2), .second, .val (.long q4), .second, .val (.long q6), .second, .val (.ref mb), .val (.long (q0 - (0 : Int64))), .second, .val (.ref qa), .val (.long (q0 - ((0 : Int64) + q4))), .second, .val (.ref ha), .val (.long (q0 - ((0 : Int64) + q4))), .second, .unset, .unset, .unset, .unset] [(.long (q0 - (((0 : Int64) + q4) - ((0 : Int64) + q4))))])) (fun t k => st11.trans k) ?_
  refine own_step (B := T11.setTop (mkF m 73 #[.val (.long q0), .second, .val (.long q2), .second, .val (.long q4), .second, .val (.long q6), .second, .val (.ref mb), .val (.long (q0 - (0 : Int64))), .second, .val (.ref qa), .val (.long (q0 - ((0 : Int64) + q4))), .second, .val (.ref ha), .val (.long (q0 - ((0 : Int64) + q4))), .second, .val (.long (q0 - (((0 : Int64) + q4) - ((0 : Int64) + q4)))), .second, .unset, .unset] [])) (fun t k => XS.lstore X11.here hx rfl (hb hby at_71) rfl (l' := #[.val (.long q0), .second, .val (.long q2), .second, .val (.long q4), .second, .val (.long q6), .second, .val (.ref mb), .val (.long (q0 - (0 : Int64))), .second, .val (.ref qa), .val (.long (q0 - ((0 : Int64) + q4))), .second, .val (.ref ha), .val (.long (q0 - ((0 : Int64) + q4))), .second, .val (.long (q0 - (((0 : Int64) + q4) - ((0 : Int64) + q4)))), .second, .unset, .unset]) rfl k) ?_
  refine own_step (B := T11.setTop (mkF m 74 #[.val (.long q0), .second, .val (.long q2), .second, .val (.long q4), .second, .val (.long q6), .second, .val (.ref mb), .val (.long (q0 - (0 : Int64))), .second, .val (.ref qa), .val (.long (q0 - ((0 : Int64) + q4))), .second, .val (.ref ha), .val (.long (q0 - ((0 : Int64) + q4))), .second, .val (.long (q0 - (((0 : Int64) + q4) - ((0 : Int64) + q4)))), .second, .unset, .unset] [(.long q0)])) (fun t k => XS.lloadN X11.here hx rfl (hb hby at_73) rfl k) ?_
  refine own_step (B := T11.setTop (mkF m 76 #[.val (.long q0), .second, .val (.long q2), .second, .val (.long q4), .second, .val (.long q6), .second, .val (.ref mb), .val (.long (q0 - (0 : Int64))), .second, .val (.ref qa), .val (.long (q0 - ((0 : Int64) + q4))), .second, .val (.ref ha), .val (.long (q0 - ((0 : Int64) + q4))), .second, .val (.long (q0 - (((0 : Int64) + q4) - ((0 : Int64) + q4)))), .second, .unset, .unset] [(.long q4), (.long q0)])) (fun t k => XS.lload X11.here hx rfl (hb hby at_74) rfl k) ?_
  refine own_step (B := T11.setTop (mkF m 77 #[.val (.long q0), .second, .val (.long q2), .second, .val (.long q4), .second, .val (.long q6), .second, .val (.ref mb), .val (.long (q0 - (0 : Int64))), .second, .val (.ref qa), .val (.long (q0 - ((0 : Int64) + q4))), .second, .val (.ref ha), .val (.long (q0 - ((0 : Int64) + q4))), .second, .val (.long (q0 - (((0 : Int64) + q4) - ((0 : Int64) + q4)))), .second, .unset, .unset] [(.long (q0 - q4))])) (fun t k => XS.lsub X11.here hx rfl (hb hby at_76) rfl k) ?_
  refine own_step (B := T11.setTop (mkF m 79 #[.val (.long q0), .second, .val (.long q2), .second, .val (.long q4), .second, .val (.long q6), .second, .val (.ref mb), .val (.long (q0 - (0 : Int64))), .second, .val (.ref qa), .val (.long (q0 - ((0 : Int64) + q4))), .second, .val (.ref ha), .val (.long (q0 - ((0 : Int64) + q4))), .second, .val (.long (q0 - (((0 : Int64) + q4) - ((0 : Int64) + q4)))), .second, .val (.long (q0 - q4)), .second] [])) (fun t k => XS.lstore X11.here hx rfl (hb hby at_77) rfl (l' := #[.val (.long q0), .second, .val (.long q2), .second, .val (.long q4), .second, .val (.long q6), .second, .val (.ref mb), .val (.long (q0 - (0 : Int64))), .second, .val (.ref qa), .val (.long (q0 - ((0 : Int64) + q4))), .second, .val (.ref ha), .val (.long (q0 - ((0 : Int64) + q4))), .second, .val (.long (q0 - (((0 : Int64) + q4) - ((0 : Int64) + q4)))), .second, .val (.long (q0 - q4)), .second]) rfl k) ?_
  refine own_step (B := T11.setTop (mkF m 81 #[.val (.long q0), .second, .val (.long q2), .second, .val (.long q4), .second, .val (.long q6), .second, .val (.ref mb), .val (.long (q0 - (0 : Int64))), .second, .val (.ref qa), .val (.long (q0 - ((0 : Int64) + q4))), .second, .val (.ref ha), .val (.long (q0 - ((0 : Int64) + q4))), .second, .val (.long (q0 - (((0 : Int64) + q4) - ((0 : Int64) + q4)))), .second, .val (.long (q0 - q4)), .second] [(.long (q0 - (0 : Int64)))])) (fun t k => XS.lload X11.here hx rfl (hb hby at_79) rfl k) ?_
  refine own_step (B := T11.setTop (mkF m 82 #[.val (.long q0), .second, .val (.long q2), .second, .val (.long q4), .second, .val (.long q6), .second, .val (.ref mb), .val (.long (q0 - (0 : Int64))), .second, .val (.ref qa), .val (.long (q0 - ((0 : Int64) + q4))), .second, .val (.ref ha), .val (.long (q0 - ((0 : Int64) + q4))), .second, .val (.long (q0 - (((0 : Int64) + q4) - ((0 : Int64) + q4)))), .second, .val (.long (q0 - q4)), .second] [(.long q0), (.long (q0 - (0 : Int64)))])) (fun t k => XS.lloadN X11.here hx rfl (hb hby at_81) rfl k) ?_
  refine own_step (B := T11.setTop (mkF m 83 #[.val (.long q0), .second, .val (.long q2), .second, .val (.long q4), .second, .val (.long q6), .second, .val (.ref mb), .val (.long (q0 - (0 : Int64))), .second, .val (.ref qa), .val (.long (q0 - ((0 : Int64) + q4))), .second, .val (.ref ha), .val (.long (q0 - ((0 : Int64) + q4))), .second, .val (.long (q0 - (((0 : Int64) + q4) - ((0 : Int64) + q4)))), .second, .val (.long (q0 - q4)), .second] [(.int (lcmpW (q0 - (0 : Int64)) q0))])) (fun t k => XS.lcmp X11.here hx rfl (hb hby at_82) rfl k) ?_
  refine own_step (B := T11.setTop (mkF m 86 #[.val (.long q0), .second, .val (.long q2), .second, .val (.long q4), .second, .val (.long q6), .second, .val (.ref mb), .val (.long (q0 - (0 : Int64))), .second, .val (.ref qa), .val (.long (q0 - ((0 : Int64) + q4))), .second, .val (.ref ha), .val (.long (q0 - ((0 : Int64) + q4))), .second, .val (.long (q0 - (((0 : Int64) + q4) - ((0 : Int64) + q4)))), .second, .val (.long (q0 - q4)), .second] [])) (fun t k => XS.ifNo X11.here hx rfl (hb hby at_83) rfl ((if0 _ _).trans (teq (own_r0 q0)).2) k) ?_
  refine own_step (B := T11.setTop (mkF m 88 #[.val (.long q0), .second, .val (.long q2), .second, .val (.long q4), .second, .val (.long q6), .second, .val (.ref mb), .val (.long (q0 - (0 : Int64))), .second, .val (.ref qa), .val (.long (q0 - ((0 : Int64) + q4))), .second, .val (.ref ha), .val (.long (q0 - ((0 : Int64) + q4))), .second, .val (.long (q0 - (((0 : Int64) + q4) - ((0 : Int64) + q4)))), .second, .val (.long (q0 - q4)), .second] [(.long (q0 - ((0 : Int64) + q4)))])) (fun t k => XS.lload X11.here hx rfl (hb hby at_86) rfl k) ?_
  refine own_step (B := T11.setTop (mkF m 90 #[.val (.long q0), .second, .val (.long q2), .second, .val (.long q4), .second, .val (.long q6), .second, .val (.ref mb), .val (.long (q0 - (0 : Int64))), .second, .val (.ref qa), .val (.long (q0 - ((0 : Int64) + q4))), .second, .val (.ref ha), .val (.long (q0 - ((0 : Int64) + q4))), .second, .val (.long (q0 - (((0 : Int64) + q4) - ((0 : Int64) + q4)))), .second, .val (.long (q0 - q4)), .second] [(.long (q0 - q4)), (.long (q0 - ((0 : Int64) + q4)))])) (fun t k => XS.lload X11.here hx rfl (hb hby at_88) rfl k) ?_
  refine own_step (B := T11.setTop (mkF m 91 #[.val (.long q0), .second, .val (.long q2), .second, .val (.long q4), .second, .val (.long q6), .second, .val (.ref mb), .val (.long (q0 - (0 : Int64))), .second, .val (.ref qa), .val (.long (q0 - ((0 : Int64) + q4))), .second, .val (.ref ha), .val (.long (q0 - ((0 : Int64) + q4))), .second, .val (.long (q0 - (((0 : Int64) + q4) - ((0 : Int64) + q4)))), .second, .val (.long (q0 - q4)), .second] [(.int (lcmpW (q0 - ((0 : Int64) + q4)) (q0 - q4)))])) (fun t k => XS.lcmp X11.here hx rfl (hb hby at_90) rfl k) ?_
  refine own_step (B := T11.setTop (mkF m 94 #[.val (.long q0), .second, .val (.long q2), .second, .val (.long q4), .second, .val (.long q6), .second, .val (.ref mb), .val (.long (q0 - (0 : Int64))), .second, .val (.ref qa), .val (.long (q0 - ((0 : Int64) + q4))), .second, .val (.ref ha), .val (.long (q0 - ((0 : Int64) + q4))), .second, .val (.long (q0 - (((0 : Int64) + q4) - ((0 : Int64) + q4)))), .second, .val (.long (q0 - q4)), .second] [])) (fun t k => XS.ifNo X11.here hx rfl (hb hby at_91) rfl ((if0 _ _).trans (teq (own_r1 q0 q4)).2) k) ?_
  refine own_step (B := T11.setTop (mkF m 96 #[.val (.long q0), .second, .val (.long q2), .second, .val (.long q4), .second, .val (.long q6), .second, .val (.ref mb), .val (.long (q0 - (0 : Int64))), .second, .val (.ref qa), .val (.long (q0 - ((0 : Int64) + q4))), .second, .val (.ref ha), .val (.long (q0 - ((0 : Int64) + q4))), .second, .val (.long (q0 - (((0 : Int64) + q4) - ((0 : Int64) + q4)))), .second, .val (.long (q0 - q4)), .second] [(.long (q0 - ((0 : Int64) + q4)))])) (fun t k => XS.lload X11.here hx rfl (hb hby at_94) rfl k) ?_
  refine own_step (B := T11.setTop (mkF m 98 #[.val (.long q0), .second, .val (.long q2), .second, .val (.long q4), .second, .val (.long q6), .second, .val (.ref mb), .val (.long (q0 - (0 : Int64))), .second, .val (.ref qa), .val (.long (q0 - ((0 : Int64) + q4))), .second, .val (.ref ha), .val (.long (q0 - ((0 : Int64) + q4))), .second, .val (.long (q0 - (((0 : Int64) + q4) - ((0 : Int64) + q4)))), .second, .val (.long (q0 - q4)), .second] [(.long (q0 - q4)), (.long (q0 - ((0 : Int64) + q4)))])) (fun t k => XS.lload X11.here hx rfl (hb hby at_96) rfl k) ?_
  refine own_step (B := T11.setTop (mkF m 99 #[.val (.long q0), .second, .val (.long q2), .second, .val (.long q4), .second, .val (.long q6), .second, .val (.ref mb), .val (.long (q0 - (0 : Int64))), .second, .val (.ref qa), .val (.long (q0 - ((0 : Int64) + q4))), .second, .val (.ref ha), .val (.long (q0 - ((0 : Int64) + q4))), .second, .val (.long (q0 - (((0 : Int64) + q4) - ((0 : Int64) + q4)))), .second, .val (.long (q0 - q4)), .second] [(.int (lcmpW (q0 - ((0 : Int64) + q4)) (q0 - q4)))])) (fun t k => XS.lcmp X11.here hx rfl (hb hby at_98) rfl k) ?_
  refine own_step (B := T11.setTop (mkF m 102 #[.val (.long q0), .second, .val (.long q2), .second, .val (.long q4), .second, .val (.long q6), .second, .val (.ref mb), .val (.long (q0 - (0 : Int64))), .second, .val (.ref qa), .val (.long (q0 - ((0 : Int64) + q4))), .second, .val (.ref ha), .val (.long (q0 - ((0 : Int64) + q4))), .second, .val (.long (q0 - (((0 : Int64) + q4) - ((0 : Int64) + q4)))), .second, .val (.long (q0 - q4)), .second] [])) (fun t k => XS.ifNo X11.here hx rfl (hb hby at_99) rfl ((if0 _ _).trans (teq (own_r1 q0 q4)).2) k) ?_
  refine own_step (B := T11.setTop (mkF m 104 #[.val (.long q0), .second, .val (.long q2), .second, .val (.long q4), .second, .val (.long q6), .second, .val (.ref mb), .val (.long (q0 - (0 : Int64))), .second, .val (.ref qa), .val (.long (q0 - ((0 : Int64) + q4))), .second, .val (.ref ha), .val (.long (q0 - ((0 : Int64) + q4))), .second, .val (.long (q0 - (((0 : Int64) + q4) - ((0 : Int64) + q4)))), .second, .val (.long (q0 - q4)), .second] [(.long (q0 - (((0 : Int64) + q4) - ((0 : Int64) + q4))))])) (fun t k => XS.lload X11.here hx rfl (hb hby at_102) rfl k) ?_
  refine own_step (B := T11.setTop (mkF m 105 #[.val (.long q0), .second, .val (.long q2), .second, .val (.long q4), .second, .val (.long q6), .second, .val (.ref mb), .val (.long (q0 - (0 : Int64))), .second, .val (.ref qa), .val (.long (q0 - ((0 : Int64) + q4))), .second, .val (.ref ha), .val (.long (q0 - ((0 : Int64) + q4))), .second, .val (.long (q0 - (((0 : Int64) + q4) - ((0 : Int64) + q4)))), .second, .val (.long (q0 - q4)), .second] [(.long q0), (.long (q0 - (((0 : Int64) + q4) - ((0 : Int64) + q4))))])) (fun t k => XS.lloadN X11.here hx rfl (hb hby at_104) rfl k) ?_
  refine own_step (B := T11.setTop (mkF m 106 #[.val (.long q0), .second, .val (.long q2), .second, .val (.long q4), .second, .val (.long q6), .second, .val (.ref mb), .val (.long (q0 - (0 : Int64))), .second, .val (.ref qa), .val (.long (q0 - ((0 : Int64) + q4))), .second, .val (.ref ha), .val (.long (q0 - ((0 : Int64) + q4))), .second, .val (.long (q0 - (((0 : Int64) + q4) - ((0 : Int64) + q4)))), .second, .val (.long (q0 - q4)), .second] [(.int (lcmpW (q0 - (((0 : Int64) + q4) - ((0 : Int64) + q4))) q0))])) (fun t k => XS.lcmp X11.here hx rfl (hb hby at_105) rfl k) ?_
  refine own_step (B := T11.setTop (mkF m 109 #[.val (.long q0), .second, .val (.long q2), .second, .val (.long q4), .second, .val (.long q6), .second, .val (.ref mb), .val (.long (q0 - (0 : Int64))), .second, .val (.ref qa), .val (.long (q0 - ((0 : Int64) + q4))), .second, .val (.ref ha), .val (.long (q0 - ((0 : Int64) + q4))), .second, .val (.long (q0 - (((0 : Int64) + q4) - ((0 : Int64) + q4)))), .second, .val (.long (q0 - q4)), .second] [])) (fun t k => XS.ifNo X11.here hx rfl (hb hby at_106) rfl ((if0 _ _).trans (teq (own_r3 q0 q4)).2) k) ?_
  refine own_step (B := T11.setTop (mkF m 110 #[.val (.long q0), .second, .val (.long q2), .second, .val (.long q4), .second, .val (.long q6), .second, .val (.ref mb), .val (.long (q0 - (0 : Int64))), .second, .val (.ref qa), .val (.long (q0 - ((0 : Int64) + q4))), .second, .val (.ref ha), .val (.long (q0 - ((0 : Int64) + q4))), .second, .val (.long (q0 - (((0 : Int64) + q4) - ((0 : Int64) + q4)))), .second, .val (.long (q0 - q4)), .second] [(.int (1 : Int32))])) (fun t k => XS.iconst X11.here hx rfl (hb hby at_109) k) ?_
  refine own_step (B := T11.setTop (mkF m 114 #[.val (.long q0), .second, .val (.long q2), .second, .val (.long q4), .second, .val (.long q6), .second, .val (.ref mb), .val (.long (q0 - (0 : Int64))), .second, .val (.ref qa), .val (.long (q0 - ((0 : Int64) + q4))), .second, .val (.ref ha), .val (.long (q0 - ((0 : Int64) + q4))), .second, .val (.long (q0 - (((0 : Int64) + q4) - ((0 : Int64) + q4)))), .second, .val (.long (q0 - q4)), .second] [(.int (1 : Int32))])) (fun t k => XS.goto X11.here hx rfl (pc0 := 110) (pc' := 114) rfl (hb hby at_110) (by decide) (by decide) k) ?_
  exact own_retN X11 hx hlk (t := .boolean) Bd.returns (by simp) (hb hby at_114) (by decide) (by decide) (by exact ⟨rfl, N0⟩)
set_option maxRecDepth 65536 in
set_option maxHeartbeats 40000000 in
theorem comes_1 {Post : Tables → Env → Array Value → State → Outcome → State → Prop} (hpost : ∀ tb e args s v u, (limb_1_1.after args s (.returned v) u = true ∧ limb_1_2.after args s (.returned v) u = true ∧ True) → FrameEnd s (.returned v) u (Jvm.fieldLocs frame_1_writes args s ++ Jvm.arrayLocs frame_1_arrays args s ++ Jvm.staticLocs frame_1_statics s) 32 192 → Post tb e args s (.returned v) u) :
    ArmFor flags0 classFile x code maxLocals ret World_1 tables_1 room_1 Calls_1 rest_1 Pre_1 Post := by
  intro l hfl _ _ p e ha hc hk s m args below hf hA hF happ hP
  obtain ⟨hcalls, hrest, hpre⟩ := hP
  obtain ⟨-, -, -, hnamed, -, -, -, hat⟩ := (Spec.applies_iff hf).mp happ
  obtain ⟨hg, hn⟩ := and_e (Cond.before_iff.mp (show (Jvm.Cond.and given_1 narrow_1).before args s = true from hpre))
  obtain ⟨g0, k0⟩ := and_e hg
  obtain ⟨g1, k1⟩ := and_e k0
  obtain ⟨g2, k2⟩ := and_e k1
  obtain ⟨g3, k3⟩ := and_e k2
  obtain ⟨w0, w1, w2, w3, rfl⟩ : ∃ w0 w1 w2 w3 : Value, args = #[w0, w1, w2, w3] := by
    have hs : args.size = 4 := by simpa [Cond.value, given_1] using g0
    obtain ⟨L⟩ := args
    match L, hs with
    | [w0, w1, w2, w3], _ => exact ⟨w0, w1, w2, w3, rfl⟩
  have hw := fun d (hd : d ∈ tables_1) => atoms_spec (ws := Jvm.Cond.code x code maxLocals ret :: tables_1) hat d (List.mem_cons_of_mem _ hd)
  have hfit : Fit s := fun {y c} hc i hi => by
    obtain ⟨ha, rfl⟩ := Array.getElem?_eq_some_iff.mp hc
    have q := List.all_eq_true.mp ((Array.all_eq_true_iff_forall_mem.mp hF) _ (Array.getElem_mem ha)) i (List.mem_range.mpr hi)
    simpa [Array.getElem?_eq_getElem hi] using q
  obtain ⟨i0, ei0⟩ := isL_v g1
  obtain rfl : w0 = (.long i0) := Option.some.inj ei0
  obtain ⟨i1, ei1⟩ := isL_v g2
  obtain rfl : w1 = (.long i1) := Option.some.inj ei1
  obtain ⟨i2, ei2⟩ := isL_v g3
  obtain rfl : w2 = (.long i2) := Option.some.inj ei2
  obtain ⟨i3, ei3⟩ := isL_v k3
  obtain rfl : w3 = (.long i3) := Option.some.inj ei3
  obtain ⟨n, o, h1, h2, h3, _, L, rfl, ⟨rfl, N⟩, hq⟩ := rm0 l s _ hw tables_1 i0 i1 i2 i3 s.heap s.heap.size (Nat.le_refl _)  p e ha hc hk s m _ below hf ((Spec.applies_iff_loose hf).mp happ).1 ⟨rfl, State.Warmed39.refl s, rfl⟩ trivial
  refine ⟨n, _, h1, h2, h3, hpost _ _ _ _ _ _ ⟨Cond.after_iff.mpr rfl, Cond.after_iff.mpr (eq_i res_at (Term.int_eval (1)) rfl), trivial⟩ ⟨hq.1, hq.2.1, (hq.2.2.sift fun y hy => Or.inr (N y hy)).mono (by decide) (by decide)⟩⟩
theorem main_1_1 : Claimed_1_1 := comes_1 fun _ _ _ _ _ _ h hF => ⟨h.1, hF⟩
theorem main_1_2 : Claimed_1_2 := comes_1 fun _ _ _ _ _ _ h hF => ⟨h.2.1, hF⟩
end Jvm.Pilot.@@N@@

namespace Jvm.Pilot.@@N@@
open Jvm Jvm.ClassFile Sem Op Lib Jvm.Free Jvm.Stand Jvm.Pilot.@@N@@.Jvm.D
/-! MADE BY PROGRAM (witnessworld.py) out of the Statement's table words and the real class files: 31 classes; the members and pool entries that the words name. The judged class is class 1, her method 1. -/
namespace start1
open Jvm.ClassFile
def u (s : String) : CpInfo := .utf8 (stringToUtf16 s)
/-- a pool by its gaps: so many unusable entries, then the entry; so many at the end -/
def gap : Nat → List CpInfo → List CpInfo
  | 0, r => r
  | n + 1, r => .unusable :: gap n r
def poolList (es : List (Nat × CpInfo)) (last : Nat) : List CpInfo := es.foldr (fun e r => gap e.1 (e.2 :: r)) (gap last [])
def pool (es : List (Nat × CpInfo)) (last : Nat) : Array CpInfo := ⟨poolList es last⟩
def fileOf (pool : Array CpInfo) (this : Nat) (attrs : Array Attribute := #[]) (ms : Array MethodInfo := #[]) (fl : Nat := 33) (sup : Nat := 0) (ifs : Array Nat := #[]) (fds : Array FieldInfo := #[]) : ClassFile where
  minorVersion := 0
  majorVersion := 65
  constantPool := pool
  accessFlags := fl
  thisClass := this
  superClass := sup
  interfaces := ifs
  fields := fds
  methods := ms
  attributes := attrs
def plain (name : String) (sup : Option ClassId) : Class where
  name := name
  kind := .ordinary
  loader := none
  accessFlags := 33
  super := sup
  interfaces := #[]
  cf := none
  fields := #[]
  methods := #[]
  instanceTypes := #[]
  staticTypes := #[]
  resolved := #[]
  callSites := []
  init := .initialized
  statics := none
  mirror := none

def pool0 : Array CpInfo := pool [(5, u "<init>"), (0, u "()V"), (1, .class_ 10), (1, u "java/lang/Object")] 113

def k0c0 : Code := { maxStack := 0, maxLocals := 1, code := object_method_1_code, exceptionTable := #[], attributes := #[] }
def k0m0 : Method := { name := "<init>", desc := "()V", sig := { parameters := [], returnType := none }, accessFlags := 1, code := some k0c0 }
/-- java/lang/Object -/
def k0 : Class := { plain "java/lang/Object" none with
  accessFlags := 33
  interfaces := #[]
  cf := some (fileOf pool0 8 #[] #[{ accessFlags := 1, nameIndex := 5, descriptorIndex := 6, attributes := #[] }] 33 0 #[] #[])
  fields := #[]
  methods := #[k0m0]
  instanceTypes := #[]
  staticTypes := #[]
  resolved := Array.replicate 124 none
  statics := none }

def pool1 : Array CpInfo := pool [(2, .class_ 4), (1, u "java/lang/Object"), (0, u "<init>"), (0, u "()V"), (0, .class_ 8), (0, u "com/example/loomwire/loomwire/transport/MemoryBudget"), (0, .methodref 7 10), (0, .nameAndType 5 11), (0, u "(JJI)V"), (0, .methodref 7 13), (0, .nameAndType 14 15), (0, u "queuedRoom"), (0, u "()J"), (0, .methodref 7 17), (0, .nameAndType 18 19), (0, u "queuedAccount"), (0, u "()Lcom/example/loomwire/loomwire/transport/MemoryBudget$Account;"), (0, .methodref 21 22), (0, .class_ 23), (0, .nameAndType 24 25), (0, u "com/example/loomwire/loomwire/transport/MemoryBudget$Account"), (0, u "force"), (0, u "(J)V"), (0, .methodref 7 27), (0, .nameAndType 28 19), (0, u "heldAccount"), (0, .methodref 21 30), (0, .nameAndType 31 6), (0, u "close"), (0, .class_ 33), (0, u "com/example/loomwire/loomwire/transport/MemoryBudgetQueuedRoomPinLaw"), (2, u "law"), (0, u "(JJJJ)Z")] 5

def k1m0 : Method := { name := "<init>", desc := "()V", sig := { parameters := [], returnType := none }, accessFlags := 1, code := none }
def k1c1 : Code := { maxStack := 7, maxLocals := 21, code := code, exceptionTable := #[], attributes := #[] }
def k1m1 : Method := { name := "law", desc := "(JJJJ)Z", sig := { parameters := [.long, .long, .long, .long], returnType := some .boolean }, accessFlags := 9, code := some k1c1 }
/-- com/example/loomwire/loomwire/transport/MemoryBudgetQueuedRoomPinLaw -/
def k1 : Class := { plain "com/example/loomwire/loomwire/transport/MemoryBudgetQueuedRoomPinLaw" (some 0) with
  accessFlags := 49
  interfaces := #[]
  cf := some (fileOf pool1 32 #[] #[{ accessFlags := 1, nameIndex := 5, descriptorIndex := 6, attributes := #[] }, { accessFlags := 9, nameIndex := 36, descriptorIndex := 37, attributes := #[] }] 49 2 #[] #[])
  fields := #[]
  methods := #[k1m0, k1m1]
  instanceTypes := #[]
  staticTypes := #[]
  resolved := Array.replicate 43 none
  statics := none }

def pool2 : Array CpInfo := pool [(1, .methodref 2 3), (0, .class_ 4), (0, .nameAndType 5 6), (0, u "java/lang/Object"), (0, u "<init>"), (0, u "()V"), (0, .class_ 8), (0, u "java/util/LinkedHashSet"), (0, .methodref 7 3), (0, .fieldref 11 12), (0, .class_ 13), (0, .nameAndType 14 15), (0, u "com/example/loomwire/loomwire/transport/MemoryBudget"), (0, u "served"), (0, u "Ljava/util/Set;"), (0, .class_ 17), (0, u "java/util/HashSet"), (0, .methodref 16 3), (0, .fieldref 11 20), (0, .nameAndType 21 15), (0, u "refused"), (0, .class_ 23), (0, u "com/example/loomwire/loomwire/transport/MemoryBudget$Pool"), (0, .methodref 22 25), (0, .nameAndType 5 26), (0, u "(J)V"), (0, .fieldref 11 28), (0, .nameAndType 29 30), (0, u "held"), (0, u "Lcom/example/loomwire/loomwire/transport/MemoryBudget$Pool;"), (0, .fieldref 11 32), (0, .nameAndType 33 30), (0, u "queued"), (0, .fieldref 11 35), (0, .nameAndType 36 37), (0, u "maxConnections"), (0, u "I"), (20, u "(JJI)V"), (5, .class_ 65), (0, u "com/example/loomwire/loomwire/transport/MemoryBudget$Account"), (0, .methodref 64 67), (0, .nameAndType 5 68), (0, u "(Lcom/example/loomwire/loomwire/transport/MemoryBudget$Pool;)V"), (24, .fieldref 22 94), (0, .nameAndType 95 96), (0, u "max"), (0, u "J"), (0, .fieldref 22 98), (0, .nameAndType 99 96), (0, u "used"), (25, u "()J"), (0, u "QUEUED_FRAME_BYTES"), (2, u "CONNECTION_BYTES"), (1, u "TLS_CONNECTION_BYTES"), (1, u "MAX_REFUSED"), (9, u "heldAccount"), (0, u "()Lcom/example/loomwire/loomwire/transport/MemoryBudget$Account;"), (0, u "queuedAccount"), (8, u "queuedRoom")] 9

def k2c0 : Code := { maxStack := 5, maxLocals := 6, code := prog_99_method_1_code, exceptionTable := #[], attributes := #[] }
def k2m0 : Method := { name := "<init>", desc := "(JJI)V", sig := { parameters := [.long, .long, .int], returnType := none }, accessFlags := 1, code := some k2c0 }
def k2c1 : Code := { maxStack := 3, maxLocals := 1, code := prog_99_method_6_code, exceptionTable := #[], attributes := #[] }
def k2m1 : Method := { name := "heldAccount", desc := "()Lcom/example/loomwire/loomwire/transport/MemoryBudget$Account;", sig := { parameters := [], returnType := some (.object "com/example/loomwire/loomwire/transport/MemoryBudget$Account") }, accessFlags := 0, code := some k2c1 }
def k2c2 : Code := { maxStack := 3, maxLocals := 1, code := prog_99_method_7_code, exceptionTable := #[], attributes := #[] }
def k2m2 : Method := { name := "queuedAccount", desc := "()Lcom/example/loomwire/loomwire/transport/MemoryBudget$Account;", sig := { parameters := [], returnType := some (.object "com/example/loomwire/loomwire/transport/MemoryBudget$Account") }, accessFlags := 0, code := some k2c2 }
def k2c3 : Code := { maxStack := 4, maxLocals := 1, code := prog_99_method_12_code, exceptionTable := #[], attributes := #[] }
def k2m3 : Method := { name := "queuedRoom", desc := "()J", sig := { parameters := [], returnType := some .long }, accessFlags := 0, code := some k2c3 }
/-- com/example/loomwire/loomwire/transport/MemoryBudget -/
def k2 : Class := { plain "com/example/loomwire/loomwire/transport/MemoryBudget" (some 0) with
  accessFlags := 49
  interfaces := #[]
  cf := some (fileOf pool2 11 #[.nestMembers #[64, 22]] #[{ accessFlags := 1, nameIndex := 5, descriptorIndex := 58, attributes := #[] }, { accessFlags := 0, nameIndex := 143, descriptorIndex := 144, attributes := #[] }, { accessFlags := 0, nameIndex := 145, descriptorIndex := 144, attributes := #[] }, { accessFlags := 0, nameIndex := 154, descriptorIndex := 125, attributes := #[] }] 49 2 #[] #[{ accessFlags := 24, nameIndex := 126, descriptorIndex := 37, attributes := #[] }, { accessFlags := 24, nameIndex := 129, descriptorIndex := 37, attributes := #[] }, { accessFlags := 24, nameIndex := 131, descriptorIndex := 37, attributes := #[] }, { accessFlags := 24, nameIndex := 133, descriptorIndex := 37, attributes := #[] }, { accessFlags := 18, nameIndex := 29, descriptorIndex := 30, attributes := #[] }, { accessFlags := 18, nameIndex := 33, descriptorIndex := 30, attributes := #[] }, { accessFlags := 18, nameIndex := 36, descriptorIndex := 37, attributes := #[] }, { accessFlags := 18, nameIndex := 14, descriptorIndex := 15, attributes := #[] }, { accessFlags := 18, nameIndex := 21, descriptorIndex := 15, attributes := #[] }])
  fields := #[{ name := "QUEUED_FRAME_BYTES", type := .int, accessFlags := 24, slot := 0, constantValue := 0 }, { name := "CONNECTION_BYTES", type := .int, accessFlags := 24, slot := 1, constantValue := 0 }, { name := "TLS_CONNECTION_BYTES", type := .int, accessFlags := 24, slot := 2, constantValue := 0 }, { name := "MAX_REFUSED", type := .int, accessFlags := 24, slot := 3, constantValue := 0 }, { name := "held", type := (.object "com/example/loomwire/loomwire/transport/MemoryBudget$Pool"), accessFlags := 18, slot := 0, constantValue := 0 }, { name := "queued", type := (.object "com/example/loomwire/loomwire/transport/MemoryBudget$Pool"), accessFlags := 18, slot := 1, constantValue := 0 }, { name := "maxConnections", type := .int, accessFlags := 18, slot := 2, constantValue := 0 }, { name := "served", type := (.object "java/util/Set"), accessFlags := 18, slot := 3, constantValue := 0 }, { name := "refused", type := (.object "java/util/Set"), accessFlags := 18, slot := 4, constantValue := 0 }]
  methods := #[k2m0, k2m1, k2m2, k2m3]
  instanceTypes := #[(.object "com/example/loomwire/loomwire/transport/MemoryBudget$Pool"), (.object "com/example/loomwire/loomwire/transport/MemoryBudget$Pool"), .int, (.object "java/util/Set"), (.object "java/util/Set")]
  staticTypes := #[.int, .int, .int, .int]
  resolved := ((((((Array.replicate 164 none).setIfInBounds 22 (some (.cls 25))).setIfInBounds 24 (some (.method ⟨25, 0⟩))).setIfInBounds 64 (some (.cls 26))).setIfInBounds 66 (some (.method ⟨26, 0⟩))).setIfInBounds 93 (some (.field 25 0))).setIfInBounds 97 (some (.field 25 1))
  statics := none }

def pool3 : Array CpInfo := pool [(8, .class_ 10), (1, u "java/lang/Iterable"), (24, .class_ 36), (0, u "java/lang/Object")] 25

/-- java/lang/Iterable -/
def k3 : Class := { plain "java/lang/Iterable" (some 0) with
  accessFlags := 1537
  interfaces := #[]
  cf := some (fileOf pool3 8 #[] #[] 1537 35 #[] #[])
  fields := #[]
  methods := #[]
  instanceTypes := #[]
  staticTypes := #[]
  resolved := Array.replicate 62 none
  statics := none }

def pool4 : Array CpInfo := pool [(10, .class_ 12), (1, u "java/util/Collection"), (47, .class_ 61), (0, u "java/lang/Object"), (0, .class_ 63), (0, u "java/lang/Iterable")] 51

/-- java/util/Collection -/
def k4 : Class := { plain "java/util/Collection" (some 0) with
  accessFlags := 1537
  interfaces := #[3]
  cf := some (fileOf pool4 10 #[] #[] 1537 60 #[62] #[])
  fields := #[]
  methods := #[]
  instanceTypes := #[]
  staticTypes := #[]
  resolved := Array.replicate 115 none
  statics := none }

def pool5 : Array CpInfo := pool [(1, .methodref 2 3), (0, .class_ 4), (0, .nameAndType 5 6), (0, u "java/lang/Object"), (0, u "<init>"), (0, u "()V"), (1, .class_ 10), (1, u "java/util/AbstractCollection"), (66, .class_ 78), (0, u "java/util/Collection")] 81

def k5c0 : Code := { maxStack := 1, maxLocals := 1, code := jdk_22_method_1_code, exceptionTable := #[], attributes := #[] }
def k5m0 : Method := { name := "<init>", desc := "()V", sig := { parameters := [], returnType := none }, accessFlags := 4, code := some k5c0 }
/-- java/util/AbstractCollection -/
def k5 : Class := { plain "java/util/AbstractCollection" (some 0) with
  accessFlags := 1057
  interfaces := #[4]
  cf := some (fileOf pool5 8 #[] #[{ accessFlags := 4, nameIndex := 5, descriptorIndex := 6, attributes := #[] }] 1057 2 #[77] #[])
  fields := #[]
  methods := #[k5m0]
  instanceTypes := #[]
  staticTypes := #[]
  resolved := Array.replicate 160 none
  statics := none }

def pool6 : Array CpInfo := pool [(26, .class_ 27), (0, u "java/lang/Object"), (5, .class_ 34), (0, u "java/util/Set"), (1, .class_ 38), (1, u "java/util/Collection")] 105

/-- java/util/Set -/
def k6 : Class := { plain "java/util/Set" (some 0) with
  accessFlags := 1537
  interfaces := #[4]
  cf := some (fileOf pool6 33 #[] #[] 1537 26 #[36] #[])
  fields := #[]
  methods := #[]
  instanceTypes := #[]
  staticTypes := #[]
  resolved := Array.replicate 144 none
  statics := none }

def pool7 : Array CpInfo := pool [(1, .methodref 2 3), (0, .class_ 4), (0, .nameAndType 5 6), (0, u "java/util/AbstractCollection"), (0, u "<init>"), (0, u "()V"), (0, .class_ 8), (0, u "java/util/Set"), (7, .class_ 17), (0, u "java/util/AbstractSet")] 78

def k7c0 : Code := { maxStack := 1, maxLocals := 1, code := jdk_91_method_1_code, exceptionTable := #[], attributes := #[] }
def k7m0 : Method := { name := "<init>", desc := "()V", sig := { parameters := [], returnType := none }, accessFlags := 4, code := some k7c0 }
/-- java/util/AbstractSet -/
def k7 : Class := { plain "java/util/AbstractSet" (some 5) with
  accessFlags := 1057
  interfaces := #[6]
  cf := some (fileOf pool7 16 #[] #[{ accessFlags := 4, nameIndex := 5, descriptorIndex := 6, attributes := #[] }] 1057 2 #[7] #[])
  fields := #[]
  methods := #[k7m0]
  instanceTypes := #[]
  staticTypes := #[]
  resolved := Array.replicate 96 none
  statics := none }

def pool8 : Array CpInfo := pool [(1, .class_ 2), (0, u "java/lang/Cloneable"), (0, .class_ 4), (0, u "java/lang/Object")] 2

/-- java/lang/Cloneable -/
def k8 : Class := { plain "java/lang/Cloneable" (some 0) with
  accessFlags := 1537
  interfaces := #[]
  cf := some (fileOf pool8 1 #[] #[] 1537 3 #[] #[])
  fields := #[]
  methods := #[]
  instanceTypes := #[]
  staticTypes := #[]
  resolved := Array.replicate 7 none
  statics := none }

def pool9 : Array CpInfo := pool [(1, .class_ 2), (0, u "java/io/Serializable"), (0, .class_ 4), (0, u "java/lang/Object")] 2

/-- java/io/Serializable -/
def k9 : Class := { plain "java/io/Serializable" (some 0) with
  accessFlags := 1537
  interfaces := #[]
  cf := some (fileOf pool9 1 #[] #[] 1537 3 #[] #[])
  fields := #[]
  methods := #[]
  instanceTypes := #[]
  staticTypes := #[]
  resolved := Array.replicate 7 none
  statics := none }

def pool10 : Array CpInfo := pool [(1, .methodref 2 3), (0, .class_ 4), (0, .nameAndType 5 6), (0, u "java/util/AbstractSet"), (0, u "<init>"), (0, u "()V"), (0, .class_ 8), (0, u "java/util/HashMap"), (0, .methodref 7 3), (0, .fieldref 11 12), (0, .class_ 13), (0, .nameAndType 14 15), (0, u "java/util/HashSet"), (0, u "map"), (0, u "Ljava/util/HashMap;"), (21, .nameAndType 5 38), (0, u "(IF)V"), (3, .class_ 43), (0, u "java/util/LinkedHashMap"), (0, .methodref 42 37), (5, .class_ 52), (1, u "java/util/Set"), (13, u "PRESENT"), (0, u "Ljava/lang/Object;"), (158, .class_ 227), (0, u "java/lang/Cloneable"), (0, .class_ 229), (0, u "java/io/Serializable"), (0, u "serialVersionUID"), (0, u "J"), (20, u "(IFZ)V")] 50

def k10c0 : Code := { maxStack := 3, maxLocals := 1, code := jdk_93_method_1_code, exceptionTable := #[], attributes := #[] }
def k10m0 : Method := { name := "<init>", desc := "()V", sig := { parameters := [], returnType := none }, accessFlags := 1, code := some k10c0 }
def k10c1 : Code := { maxStack := 5, maxLocals := 4, code := jdk_93_method_5_code, exceptionTable := #[], attributes := #[] }
def k10m1 : Method := { name := "<init>", desc := "(IFZ)V", sig := { parameters := [.int, .float, .boolean], returnType := none }, accessFlags := 0, code := some k10c1 }
/-- java/util/HashSet -/
def k10 : Class := { plain "java/util/HashSet" (some 7) with
  accessFlags := 33
  interfaces := #[6, 8, 9]
  cf := some (fileOf pool10 11 #[] #[{ accessFlags := 1, nameIndex := 5, descriptorIndex := 6, attributes := #[] }, { accessFlags := 0, nameIndex := 5, descriptorIndex := 252, attributes := #[] }] 33 2 #[50, 226, 228] #[{ accessFlags := 24, nameIndex := 230, descriptorIndex := 231, attributes := #[] }, { accessFlags := 128, nameIndex := 14, descriptorIndex := 15, attributes := #[] }, { accessFlags := 24, nameIndex := 66, descriptorIndex := 67, attributes := #[] }])
  fields := #[{ name := "serialVersionUID", type := .long, accessFlags := 24, slot := 0, constantValue := 0 }, { name := "map", type := (.object "java/util/HashMap"), accessFlags := 128, slot := 0, constantValue := 0 }, { name := "PRESENT", type := (.object "java/lang/Object"), accessFlags := 24, slot := 1, constantValue := 0 }]
  methods := #[k10m0, k10m1]
  instanceTypes := #[(.object "java/util/HashMap")]
  staticTypes := #[.long, (.object "java/lang/Object")]
  resolved := Array.replicate 303 none
  statics := none }

def pool11 : Array CpInfo := pool [(8, .class_ 10), (1, u "java/util/SequencedCollection"), (15, .class_ 27), (0, u "java/lang/Object"), (0, .class_ 29), (0, u "java/util/Collection")] 27

/-- java/util/SequencedCollection -/
def k11 : Class := { plain "java/util/SequencedCollection" (some 0) with
  accessFlags := 1537
  interfaces := #[4]
  cf := some (fileOf pool11 8 #[] #[] 1537 26 #[28] #[])
  fields := #[]
  methods := #[]
  instanceTypes := #[]
  staticTypes := #[]
  resolved := Array.replicate 57 none
  statics := none }

def pool12 : Array CpInfo := pool [(2, .class_ 4), (1, u "java/util/SequencedSet"), (2, .class_ 8), (0, u "java/lang/Object"), (0, .class_ 10), (0, u "java/util/SequencedCollection"), (0, .class_ 12), (0, u "java/util/Set")] 13

/-- java/util/SequencedSet -/
def k12 : Class := { plain "java/util/SequencedSet" (some 0) with
  accessFlags := 1537
  interfaces := #[11, 6]
  cf := some (fileOf pool12 2 #[] #[] 1537 7 #[9, 11] #[])
  fields := #[]
  methods := #[]
  instanceTypes := #[]
  staticTypes := #[]
  resolved := Array.replicate 26 none
  statics := none }

def pool13 : Array CpInfo := pool [(1, .methodref 2 3), (0, .class_ 4), (0, .nameAndType 5 6), (0, u "java/util/HashSet"), (0, u "<init>"), (0, u "(IFZ)V"), (0, .float 1061158912), (19, .class_ 29), (1, u "java/util/LinkedHashSet"), (16, u "()V"), (44, .class_ 93), (1, u "java/util/SequencedSet"), (11, .class_ 106), (0, u "java/util/LinkedHashSet$1ReverseLinkedHashSetView"), (6, .class_ 114), (0, u "java/lang/Cloneable"), (0, .class_ 116), (0, u "java/io/Serializable"), (0, u "serialVersionUID"), (0, u "J")] 44

def k13c0 : Code := { maxStack := 4, maxLocals := 1, code := jdk_2620_method_3_code, exceptionTable := #[], attributes := #[] }
def k13m0 : Method := { name := "<init>", desc := "()V", sig := { parameters := [], returnType := none }, accessFlags := 1, code := some k13c0 }
/-- java/util/LinkedHashSet -/
def k13 : Class := { plain "java/util/LinkedHashSet" (some 10) with
  accessFlags := 33
  interfaces := #[12, 8, 9]
  cf := some (fileOf pool13 27 #[.nestMembers #[105]] #[{ accessFlags := 1, nameIndex := 5, descriptorIndex := 46, attributes := #[] }] 33 2 #[91, 113, 115] #[{ accessFlags := 26, nameIndex := 117, descriptorIndex := 118, attributes := #[] }])
  fields := #[{ name := "serialVersionUID", type := .long, accessFlags := 26, slot := 0, constantValue := 0 }]
  methods := #[k13m0]
  instanceTypes := #[(.object "java/util/HashMap")]
  staticTypes := #[.long]
  resolved := Array.replicate 163 none
  statics := none }

def pool14 : Array CpInfo := pool [(2, .class_ 4), (1, u "java/util/Map"), (31, .class_ 37), (0, u "java/util/Map$Entry"), (55, .class_ 94), (0, u "java/lang/Object")] 168

/-- java/util/Map -/
def k14 : Class := { plain "java/util/Map" (some 0) with
  accessFlags := 1537
  interfaces := #[]
  cf := some (fileOf pool14 2 #[.nestMembers #[36]] #[] 1537 93 #[] #[])
  fields := #[]
  methods := #[]
  instanceTypes := #[]
  staticTypes := #[]
  resolved := Array.replicate 263 none
  statics := none }

def pool15 : Array CpInfo := pool [(1, .methodref 2 3), (0, .class_ 4), (0, .nameAndType 5 6), (0, u "java/lang/Object"), (0, u "<init>"), (0, u "()V"), (1, .class_ 10), (1, u "java/util/AbstractMap"), (42, .class_ 54), (0, u "java/util/Map"), (9, u "keySet"), (0, u "Ljava/util/Set;"), (0, .class_ 67), (0, u "java/util/AbstractMap$1"), (5, u "values"), (0, u "Ljava/util/Collection;"), (0, .class_ 76), (0, u "java/util/AbstractMap$2"), (104, .class_ 182), (0, u "java/util/AbstractMap$ViewCollection"), (0, .class_ 184), (0, u "java/util/AbstractMap$SimpleImmutableEntry"), (0, .class_ 186), (0, u "java/util/AbstractMap$SimpleEntry"), (0, .class_ 188), (0, u "java/util/AbstractMap$2$1"), (0, .class_ 190), (0, u "java/util/AbstractMap$1$1")] 5

def k15c0 : Code := { maxStack := 1, maxLocals := 1, code := jdk_71_method_1_code, exceptionTable := #[], attributes := #[] }
def k15m0 : Method := { name := "<init>", desc := "()V", sig := { parameters := [], returnType := none }, accessFlags := 4, code := some k15c0 }
/-- java/util/AbstractMap -/
def k15 : Class := { plain "java/util/AbstractMap" (some 0) with
  accessFlags := 1057
  interfaces := #[14]
  cf := some (fileOf pool15 8 #[.nestMembers #[181, 183, 185, 75, 187, 66, 189]] #[{ accessFlags := 4, nameIndex := 5, descriptorIndex := 6, attributes := #[] }] 1057 2 #[53] #[{ accessFlags := 128, nameIndex := 64, descriptorIndex := 65, attributes := #[] }, { accessFlags := 128, nameIndex := 73, descriptorIndex := 74, attributes := #[] }])
  fields := #[{ name := "keySet", type := (.object "java/util/Set"), accessFlags := 128, slot := 0, constantValue := 0 }, { name := "values", type := (.object "java/util/Collection"), accessFlags := 128, slot := 1, constantValue := 0 }]
  methods := #[k15m0]
  instanceTypes := #[(.object "java/util/Set"), (.object "java/util/Collection")]
  staticTypes := #[]
  resolved := Array.replicate 196 none
  statics := none }

def pool16 : Array CpInfo := pool [(34, .methodref 35 36), (0, .class_ 37), (0, .nameAndType 38 39), (0, u "java/lang/Integer"), (0, u "numberOfLeadingZeros"), (0, u "(I)I"), (0, .class_ 41), (0, u "java/util/HashMap"), (0, .integer 1073741824), (0, .methodref 44 45), (0, .class_ 46), (0, .nameAndType 47 48), (0, u "java/util/AbstractMap"), (0, u "<init>"), (0, u "()V"), (21, .methodref 71 72), (0, .class_ 73), (0, .nameAndType 74 75), (0, u "java/lang/Float"), (0, u "isNaN"), (0, u "(F)Z"), (5, .fieldref 40 82), (0, .nameAndType 83 84), (0, u "loadFactor"), (0, u "F"), (0, .methodref 40 86), (0, .nameAndType 87 39), (0, u "tableSizeFor"), (0, .fieldref 40 89), (0, .nameAndType 90 91), (0, u "threshold"), (0, u "I"), (0, .float 1061158912), (2, u "(IF)V"), (5, .class_ 103), (1, u "java/util/Map"), (0, u "size"), (2, u "table"), (0, u "[Ljava/util/HashMap$Node;"), (14, u "entrySet"), (39, .class_ 165), (1, u "java/util/HashMap$Node"), (14, .class_ 181), (0, u "java/util/HashMap$TreeNode"), (22, u "modCount"), (37, u "Ljava/util/Set;"), (0, .class_ 244), (0, u "java/util/HashMap$KeySet"), (18, .class_ 264), (0, u "java/util/HashMap$Values"), (3, .class_ 269), (0, u "java/util/HashMap$EntrySet"), (76, .class_ 348), (1, u "java/util/HashMap$UnsafeHolder"), (43, .class_ 393), (0, u "java/lang/Cloneable"), (0, .class_ 395), (0, u "java/io/Serializable"), (0, u "serialVersionUID"), (0, u "J"), (3, u "DEFAULT_INITIAL_CAPACITY"), (1, u "MAXIMUM_CAPACITY"), (0, u "DEFAULT_LOAD_FACTOR"), (0, u "TREEIFY_THRESHOLD"), (1, u "UNTREEIFY_THRESHOLD"), (1, u "MIN_TREEIFY_CAPACITY"), (186, .class_ 597), (0, u "java/util/HashMap$EntrySpliterator"), (0, .class_ 599), (0, u "java/util/HashMap$ValueSpliterator"), (0, .class_ 601), (0, u "java/util/HashMap$KeySpliterator"), (0, .class_ 603), (0, u "java/util/HashMap$HashMapSpliterator"), (0, .class_ 605), (0, u "java/util/HashMap$EntryIterator"), (0, .class_ 607), (0, u "java/util/HashMap$ValueIterator"), (0, .class_ 609), (0, u "java/util/HashMap$KeyIterator"), (0, .class_ 611), (0, u "java/util/HashMap$HashIterator")] 17

def k16c0 : Code := { maxStack := 3, maxLocals := 2, code := jdk_69_method_4_code, exceptionTable := #[], attributes := #[] }
def k16m0 : Method := { name := "tableSizeFor", desc := "(I)I", sig := { parameters := [.int], returnType := some .int }, accessFlags := 24, code := some k16c0 }
def k16c1 : Code := { maxStack := 4, maxLocals := 3, code := jdk_69_method_5_code, exceptionTable := #[], attributes := #[] }
def k16m1 : Method := { name := "<init>", desc := "(IF)V", sig := { parameters := [.int, .float], returnType := none }, accessFlags := 1, code := some k16c1 }
def k16c2 : Code := { maxStack := 2, maxLocals := 1, code := jdk_69_method_7_code, exceptionTable := #[], attributes := #[] }
def k16m2 : Method := { name := "<init>", desc := "()V", sig := { parameters := [], returnType := none }, accessFlags := 1, code := some k16c2 }
/-- java/util/HashMap -/
def k16 : Class := { plain "java/util/HashMap" (some 15) with
  accessFlags := 33
  interfaces := #[14, 8, 9]
  cf := some (fileOf pool16 40 #[.nestMembers #[180, 596, 598, 600, 602, 604, 606, 608, 610, 346, 268, 263, 243, 163]] #[{ accessFlags := 24, nameIndex := 87, descriptorIndex := 39, attributes := #[] }, { accessFlags := 1, nameIndex := 47, descriptorIndex := 95, attributes := #[] }, { accessFlags := 1, nameIndex := 47, descriptorIndex := 48, attributes := #[] }] 33 44 #[101, 392, 394] #[{ accessFlags := 26, nameIndex := 396, descriptorIndex := 397, attributes := #[] }, { accessFlags := 24, nameIndex := 401, descriptorIndex := 91, attributes := #[] }, { accessFlags := 24, nameIndex := 403, descriptorIndex := 91, attributes := #[] }, { accessFlags := 24, nameIndex := 404, descriptorIndex := 84, attributes := #[] }, { accessFlags := 24, nameIndex := 405, descriptorIndex := 91, attributes := #[] }, { accessFlags := 24, nameIndex := 407, descriptorIndex := 91, attributes := #[] }, { accessFlags := 24, nameIndex := 409, descriptorIndex := 91, attributes := #[] }, { accessFlags := 128, nameIndex := 107, descriptorIndex := 108, attributes := #[] }, { accessFlags := 128, nameIndex := 123, descriptorIndex := 242, attributes := #[] }, { accessFlags := 128, nameIndex := 104, descriptorIndex := 91, attributes := #[] }, { accessFlags := 128, nameIndex := 204, descriptorIndex := 91, attributes := #[] }, { accessFlags := 0, nameIndex := 90, descriptorIndex := 91, attributes := #[] }, { accessFlags := 16, nameIndex := 83, descriptorIndex := 84, attributes := #[] }])
  fields := #[{ name := "serialVersionUID", type := .long, accessFlags := 26, slot := 0, constantValue := 0 }, { name := "DEFAULT_INITIAL_CAPACITY", type := .int, accessFlags := 24, slot := 1, constantValue := 0 }, { name := "MAXIMUM_CAPACITY", type := .int, accessFlags := 24, slot := 2, constantValue := 0 }, { name := "DEFAULT_LOAD_FACTOR", type := .float, accessFlags := 24, slot := 3, constantValue := 0 }, { name := "TREEIFY_THRESHOLD", type := .int, accessFlags := 24, slot := 4, constantValue := 0 }, { name := "UNTREEIFY_THRESHOLD", type := .int, accessFlags := 24, slot := 5, constantValue := 0 }, { name := "MIN_TREEIFY_CAPACITY", type := .int, accessFlags := 24, slot := 6, constantValue := 0 }, { name := "table", type := (.array (.object "java/util/HashMap$Node")), accessFlags := 128, slot := 2, constantValue := 0 }, { name := "entrySet", type := (.object "java/util/Set"), accessFlags := 128, slot := 3, constantValue := 0 }, { name := "size", type := .int, accessFlags := 128, slot := 4, constantValue := 0 }, { name := "modCount", type := .int, accessFlags := 128, slot := 5, constantValue := 0 }, { name := "threshold", type := .int, accessFlags := 0, slot := 6, constantValue := 0 }, { name := "loadFactor", type := .float, accessFlags := 16, slot := 7, constantValue := 0 }]
  methods := #[k16m0, k16m1, k16m2]
  instanceTypes := #[(.object "java/util/Set"), (.object "java/util/Collection"), (.array (.object "java/util/HashMap$Node")), (.object "java/util/Set"), .int, .int, .int, .float]
  staticTypes := #[.long, .int, .int, .float, .int, .int, .int]
  resolved := Array.replicate 629 none
  statics := none }

def pool17 : Array CpInfo := pool [(2, .class_ 4), (1, u "java/util/SequencedMap"), (38, .class_ 44), (0, u "java/util/SequencedMap$1SeqKeySet"), (3, .class_ 49), (0, u "java/util/SequencedMap$1SeqValues"), (1, .class_ 52), (0, u "java/util/SequencedMap$1SeqEntrySet"), (1, .class_ 55), (0, u "java/lang/Object"), (0, .class_ 57), (0, u "java/util/Map")] 48

/-- java/util/SequencedMap -/
def k17 : Class := { plain "java/util/SequencedMap" (some 0) with
  accessFlags := 1537
  interfaces := #[14]
  cf := some (fileOf pool17 2 #[.nestMembers #[51, 48, 43]] #[] 1537 54 #[56] #[])
  fields := #[]
  methods := #[]
  instanceTypes := #[]
  staticTypes := #[]
  resolved := Array.replicate 106 none
  statics := none }

def pool18 : Array CpInfo := pool [(1, .fieldref 2 3), (0, .class_ 4), (0, .nameAndType 5 6), (0, u "java/util/LinkedHashMap"), (0, u "putMode"), (0, u "I"), (2, u "head"), (0, u "Ljava/util/LinkedHashMap$Entry;"), (2, u "tail"), (1, .class_ 17), (1, u "java/util/LinkedHashMap$Entry"), (5, .class_ 25), (1, u "java/util/HashMap"), (1, u "()V"), (2, u "<init>"), (33, .fieldref 2 65), (0, .nameAndType 66 67), (0, u "accessOrder"), (0, u "Z"), (13, .methodref 23 82), (0, .nameAndType 30 83), (0, u "(IF)V"), (37, .class_ 122), (0, u "java/util/LinkedHashMap$LinkedKeySet"), (20, .class_ 144), (0, u "java/util/LinkedHashMap$LinkedValues"), (9, .class_ 155), (0, u "java/util/LinkedHashMap$LinkedEntrySet"), (44, .class_ 201), (0, u "java/util/LinkedHashMap$ReversedLinkedHashMapView"), (3, .class_ 206), (0, u "java/util/SequencedMap"), (0, u "serialVersionUID"), (0, u "J"), (5, u "PUT_NORM"), (1, u "PUT_FIRST"), (1, u "PUT_LAST"), (143, .class_ 363), (0, u "java/util/LinkedHashMap$LinkedEntryIterator"), (0, .class_ 365), (0, u "java/util/LinkedHashMap$LinkedValueIterator"), (0, .class_ 367), (0, u "java/util/LinkedHashMap$LinkedKeyIterator"), (0, .class_ 369), (0, u "java/util/LinkedHashMap$LinkedHashIterator")] 16

def k18c0 : Code := { maxStack := 3, maxLocals := 3, code := jdk_94_method_14_code, exceptionTable := #[], attributes := #[] }
def k18m0 : Method := { name := "<init>", desc := "(IF)V", sig := { parameters := [.int, .float], returnType := none }, accessFlags := 1, code := some k18c0 }
def k18m1 : Method := { name := "<init>", desc := "()V", sig := { parameters := [], returnType := none }, accessFlags := 1, code := none }
/-- java/util/LinkedHashMap -/
def k18 : Class := { plain "java/util/LinkedHashMap" (some 16) with
  accessFlags := 33
  interfaces := #[17]
  cf := some (fileOf pool18 2 #[.nestMembers #[200, 362, 364, 366, 368, 154, 143, 121, 15]] #[{ accessFlags := 1, nameIndex := 30, descriptorIndex := 83, attributes := #[] }, { accessFlags := 1, nameIndex := 30, descriptorIndex := 27, attributes := #[] }] 33 23 #[205] #[{ accessFlags := 26, nameIndex := 207, descriptorIndex := 208, attributes := #[] }, { accessFlags := 128, nameIndex := 9, descriptorIndex := 10, attributes := #[] }, { accessFlags := 128, nameIndex := 13, descriptorIndex := 10, attributes := #[] }, { accessFlags := 16, nameIndex := 66, descriptorIndex := 67, attributes := #[] }, { accessFlags := 24, nameIndex := 214, descriptorIndex := 6, attributes := #[] }, { accessFlags := 24, nameIndex := 216, descriptorIndex := 6, attributes := #[] }, { accessFlags := 24, nameIndex := 218, descriptorIndex := 6, attributes := #[] }, { accessFlags := 128, nameIndex := 5, descriptorIndex := 6, attributes := #[] }])
  fields := #[{ name := "serialVersionUID", type := .long, accessFlags := 26, slot := 0, constantValue := 0 }, { name := "head", type := (.object "java/util/LinkedHashMap$Entry"), accessFlags := 128, slot := 8, constantValue := 0 }, { name := "tail", type := (.object "java/util/LinkedHashMap$Entry"), accessFlags := 128, slot := 9, constantValue := 0 }, { name := "accessOrder", type := .boolean, accessFlags := 16, slot := 10, constantValue := 0 }, { name := "PUT_NORM", type := .int, accessFlags := 24, slot := 1, constantValue := 0 }, { name := "PUT_FIRST", type := .int, accessFlags := 24, slot := 2, constantValue := 0 }, { name := "PUT_LAST", type := .int, accessFlags := 24, slot := 3, constantValue := 0 }, { name := "putMode", type := .int, accessFlags := 128, slot := 11, constantValue := 0 }]
  methods := #[k18m0, k18m1]
  instanceTypes := #[(.object "java/util/Set"), (.object "java/util/Collection"), (.array (.object "java/util/HashMap$Node")), (.object "java/util/Set"), .int, .int, .int, .float, (.object "java/util/LinkedHashMap$Entry"), (.object "java/util/LinkedHashMap$Entry"), .boolean, .int]
  staticTypes := #[.long, .int, .int, .int]
  resolved := Array.replicate 386 none
  statics := none }

def pool19 : Array CpInfo := pool [(2, .class_ 4), (1, u "java/lang/Object"), (0, u "<init>"), (0, u "()V"), (1, .class_ 10), (1, u "java/lang/Number"), (2, .class_ 14), (0, u "java/io/Serializable"), (0, u "serialVersionUID"), (0, u "J")] 20

def k19m0 : Method := { name := "<init>", desc := "()V", sig := { parameters := [], returnType := none }, accessFlags := 1, code := none }
/-- java/lang/Number -/
def k19 : Class := { plain "java/lang/Number" (some 0) with
  accessFlags := 1057
  interfaces := #[9]
  cf := some (fileOf pool19 8 #[] #[{ accessFlags := 1, nameIndex := 5, descriptorIndex := 6, attributes := #[] }] 1057 2 #[13] #[{ accessFlags := 26, nameIndex := 15, descriptorIndex := 16, attributes := #[] }])
  fields := #[{ name := "serialVersionUID", type := .long, accessFlags := 26, slot := 0, constantValue := 0 }]
  methods := #[k19m0]
  instanceTypes := #[]
  staticTypes := #[.long]
  resolved := Array.replicate 37 none
  statics := none }

def pool20 : Array CpInfo := pool [(1, .class_ 2), (0, u "java/lang/Comparable"), (0, .class_ 4), (0, u "java/lang/Object")] 7

/-- java/lang/Comparable -/
def k20 : Class := { plain "java/lang/Comparable" (some 0) with
  accessFlags := 1537
  interfaces := #[]
  cf := some (fileOf pool20 1 #[] #[] 1537 3 #[] #[])
  fields := #[]
  methods := #[]
  instanceTypes := #[]
  staticTypes := #[]
  resolved := Array.replicate 12 none
  statics := none }

def pool21 : Array CpInfo := pool [(1, .class_ 2), (0, u "java/lang/constant/Constable"), (0, .class_ 4), (0, u "java/lang/Object")] 6

/-- java/lang/constant/Constable -/
def k21 : Class := { plain "java/lang/constant/Constable" (some 0) with
  accessFlags := 1537
  interfaces := #[]
  cf := some (fileOf pool21 1 #[] #[] 1537 3 #[] #[])
  fields := #[]
  methods := #[]
  instanceTypes := #[]
  staticTypes := #[]
  resolved := Array.replicate 11 none
  statics := none }

def pool22 : Array CpInfo := pool [(1, .class_ 2), (0, u "java/lang/constant/ConstantDesc"), (0, .class_ 4), (0, u "java/lang/Object")] 32

/-- java/lang/constant/ConstantDesc -/
def k22 : Class := { plain "java/lang/constant/ConstantDesc" (some 0) with
  accessFlags := 1537
  interfaces := #[]
  cf := some (fileOf pool22 1 #[] #[] 1537 3 #[] #[])
  fields := #[]
  methods := #[]
  instanceTypes := #[]
  staticTypes := #[]
  resolved := Array.replicate 37 none
  statics := none }

def pool23 : Array CpInfo := pool [(1, .class_ 2), (0, u "java/lang/Float"), (48, .class_ 53), (1, u "java/lang/Number"), (3, u "value"), (0, u "F"), (2, u "isNaN"), (0, u "(F)Z"), (28, u "$assertionsDisabled"), (0, u "Z"), (52, u "TYPE"), (0, u "Ljava/lang/Class;"), (0, .class_ 148), (0, u "java/lang/Comparable"), (0, .class_ 150), (0, u "java/lang/constant/Constable"), (0, .class_ 152), (0, u "java/lang/constant/ConstantDesc"), (0, u "POSITIVE_INFINITY"), (1, u "NEGATIVE_INFINITY"), (1, u "NaN"), (1, u "MAX_VALUE"), (0, u "MIN_NORMAL"), (0, u "MIN_VALUE"), (1, u "SIZE"), (0, u "I"), (1, u "PRECISION"), (1, u "MAX_EXPONENT"), (1, u "MIN_EXPONENT"), (1, u "BYTES"), (3, u "serialVersionUID"), (0, u "J")] 101

def k23c0 : Code := { maxStack := 2, maxLocals := 1, code := jdk_118_method_6_code, exceptionTable := #[], attributes := #[] }
def k23m0 : Method := { name := "isNaN", desc := "(F)Z", sig := { parameters := [.float], returnType := some .boolean }, accessFlags := 9, code := some k23c0 }
/-- java/lang/Float -/
def k23 : Class := { plain "java/lang/Float" (some 19) with
  accessFlags := 49
  interfaces := #[20, 21, 22]
  cf := some (fileOf pool23 1 #[] #[{ accessFlags := 9, nameIndex := 61, descriptorIndex := 62, attributes := #[] }] 49 51 #[147, 149, 151] #[{ accessFlags := 25, nameIndex := 153, descriptorIndex := 58, attributes := #[] }, { accessFlags := 25, nameIndex := 155, descriptorIndex := 58, attributes := #[] }, { accessFlags := 25, nameIndex := 157, descriptorIndex := 58, attributes := #[] }, { accessFlags := 25, nameIndex := 159, descriptorIndex := 58, attributes := #[] }, { accessFlags := 25, nameIndex := 160, descriptorIndex := 58, attributes := #[] }, { accessFlags := 25, nameIndex := 161, descriptorIndex := 58, attributes := #[] }, { accessFlags := 25, nameIndex := 163, descriptorIndex := 164, attributes := #[] }, { accessFlags := 25, nameIndex := 166, descriptorIndex := 164, attributes := #[] }, { accessFlags := 25, nameIndex := 168, descriptorIndex := 164, attributes := #[] }, { accessFlags := 25, nameIndex := 170, descriptorIndex := 164, attributes := #[] }, { accessFlags := 25, nameIndex := 172, descriptorIndex := 164, attributes := #[] }, { accessFlags := 25, nameIndex := 145, descriptorIndex := 146, attributes := #[] }, { accessFlags := 18, nameIndex := 57, descriptorIndex := 58, attributes := #[] }, { accessFlags := 26, nameIndex := 176, descriptorIndex := 177, attributes := #[] }, { accessFlags := 4120, nameIndex := 91, descriptorIndex := 92, attributes := #[] }])
  fields := #[{ name := "POSITIVE_INFINITY", type := .float, accessFlags := 25, slot := 0, constantValue := 0 }, { name := "NEGATIVE_INFINITY", type := .float, accessFlags := 25, slot := 1, constantValue := 0 }, { name := "NaN", type := .float, accessFlags := 25, slot := 2, constantValue := 0 }, { name := "MAX_VALUE", type := .float, accessFlags := 25, slot := 3, constantValue := 0 }, { name := "MIN_NORMAL", type := .float, accessFlags := 25, slot := 4, constantValue := 0 }, { name := "MIN_VALUE", type := .float, accessFlags := 25, slot := 5, constantValue := 0 }, { name := "SIZE", type := .int, accessFlags := 25, slot := 6, constantValue := 0 }, { name := "PRECISION", type := .int, accessFlags := 25, slot := 7, constantValue := 0 }, { name := "MAX_EXPONENT", type := .int, accessFlags := 25, slot := 8, constantValue := 0 }, { name := "MIN_EXPONENT", type := .int, accessFlags := 25, slot := 9, constantValue := 0 }, { name := "BYTES", type := .int, accessFlags := 25, slot := 10, constantValue := 0 }, { name := "TYPE", type := (.object "java/lang/Class"), accessFlags := 25, slot := 11, constantValue := 0 }, { name := "value", type := .float, accessFlags := 18, slot := 0, constantValue := 0 }, { name := "serialVersionUID", type := .long, accessFlags := 26, slot := 12, constantValue := 0 }, { name := "$assertionsDisabled", type := .boolean, accessFlags := 4120, slot := 13, constantValue := 0 }]
  methods := #[k23m0]
  instanceTypes := #[.float]
  staticTypes := #[.float, .float, .float, .float, .float, .float, .int, .int, .int, .int, .int, (.object "java/lang/Class"), .long, .boolean]
  resolved := Array.replicate 279 none
  statics := none }

def pool24 : Array CpInfo := pool [(1, .class_ 2), (0, u "java/lang/Integer"), (16, u "digits"), (0, u "[C"), (32, u "numberOfLeadingZeros"), (0, u "(I)I"), (30, u "DigitOnes"), (0, u "[B"), (2, u "DigitTens"), (99, .class_ 190), (0, u "java/lang/Integer$IntegerCache"), (3, u "I"), (8, .class_ 204), (0, u "java/lang/Number"), (2, u "value"), (56, .integer 65536), (37, u "TYPE"), (0, u "Ljava/lang/Class;"), (0, .class_ 305), (0, u "java/lang/Comparable"), (0, .class_ 307), (0, u "java/lang/constant/Constable"), (0, .class_ 309), (0, u "java/lang/constant/ConstantDesc"), (0, u "MIN_VALUE"), (1, u "MAX_VALUE"), (3, u "SIZE"), (1, u "BYTES"), (1, u "serialVersionUID"), (0, u "J")] 131

def k24c0 : Code := { maxStack := 3, maxLocals := 2, code := jdk_33_method_47_code, exceptionTable := #[], attributes := #[] }
def k24m0 : Method := { name := "numberOfLeadingZeros", desc := "(I)I", sig := { parameters := [.int], returnType := some .int }, accessFlags := 9, code := some k24c0 }
/-- java/lang/Integer -/
def k24 : Class := { plain "java/lang/Integer" (some 19) with
  accessFlags := 49
  interfaces := #[20, 21, 22]
  cf := some (fileOf pool24 1 #[.nestMembers #[189]] #[{ accessFlags := 9, nameIndex := 53, descriptorIndex := 54, attributes := #[] }] 49 203 #[304, 306, 308] #[{ accessFlags := 25, nameIndex := 310, descriptorIndex := 194, attributes := #[] }, { accessFlags := 25, nameIndex := 312, descriptorIndex := 194, attributes := #[] }, { accessFlags := 25, nameIndex := 302, descriptorIndex := 303, attributes := #[] }, { accessFlags := 24, nameIndex := 19, descriptorIndex := 20, attributes := #[] }, { accessFlags := 24, nameIndex := 89, descriptorIndex := 86, attributes := #[] }, { accessFlags := 24, nameIndex := 85, descriptorIndex := 86, attributes := #[] }, { accessFlags := 18, nameIndex := 207, descriptorIndex := 194, attributes := #[] }, { accessFlags := 25, nameIndex := 316, descriptorIndex := 194, attributes := #[] }, { accessFlags := 25, nameIndex := 318, descriptorIndex := 194, attributes := #[] }, { accessFlags := 26, nameIndex := 320, descriptorIndex := 321, attributes := #[] }])
  fields := #[{ name := "MIN_VALUE", type := .int, accessFlags := 25, slot := 0, constantValue := 0 }, { name := "MAX_VALUE", type := .int, accessFlags := 25, slot := 1, constantValue := 0 }, { name := "TYPE", type := (.object "java/lang/Class"), accessFlags := 25, slot := 2, constantValue := 0 }, { name := "digits", type := (.array .char), accessFlags := 24, slot := 3, constantValue := 0 }, { name := "DigitTens", type := (.array .byte), accessFlags := 24, slot := 4, constantValue := 0 }, { name := "DigitOnes", type := (.array .byte), accessFlags := 24, slot := 5, constantValue := 0 }, { name := "value", type := .int, accessFlags := 18, slot := 0, constantValue := 0 }, { name := "SIZE", type := .int, accessFlags := 25, slot := 6, constantValue := 0 }, { name := "BYTES", type := .int, accessFlags := 25, slot := 7, constantValue := 0 }, { name := "serialVersionUID", type := .long, accessFlags := 26, slot := 8, constantValue := 0 }]
  methods := #[k24m0]
  instanceTypes := #[.int]
  staticTypes := #[.int, .int, (.object "java/lang/Class"), (.array .char), (.array .byte), (.array .byte), .int, .int, .long]
  resolved := Array.replicate 453 none
  statics := none }

def pool25 : Array CpInfo := pool [(1, .methodref 2 3), (0, .class_ 4), (0, .nameAndType 5 6), (0, u "java/lang/Object"), (0, u "<init>"), (0, u "()V"), (0, .fieldref 8 9), (0, .class_ 10), (0, .nameAndType 11 12), (0, u "com/example/loomwire/loomwire/transport/MemoryBudget$Pool"), (0, u "max"), (0, u "J"), (0, u "used"), (0, u "(J)V"), (5, .class_ 21), (0, u "com/example/loomwire/loomwire/transport/MemoryBudget")] 2

def k25c0 : Code := { maxStack := 3, maxLocals := 3, code := prog_101_method_1_code, exceptionTable := #[], attributes := #[] }
def k25m0 : Method := { name := "<init>", desc := "(J)V", sig := { parameters := [.long], returnType := none }, accessFlags := 2, code := some k25c0 }
/-- com/example/loomwire/loomwire/transport/MemoryBudget$Pool -/
def k25 : Class := { plain "com/example/loomwire/loomwire/transport/MemoryBudget$Pool" (some 0) with
  accessFlags := 48
  interfaces := #[]
  cf := some (fileOf pool25 8 #[.nestHost 20] #[{ accessFlags := 2, nameIndex := 5, descriptorIndex := 14, attributes := #[] }] 48 2 #[] #[{ accessFlags := 18, nameIndex := 11, descriptorIndex := 12, attributes := #[] }, { accessFlags := 2, nameIndex := 13, descriptorIndex := 12, attributes := #[] }])
  fields := #[{ name := "max", type := .long, accessFlags := 18, slot := 0, constantValue := 0 }, { name := "used", type := .long, accessFlags := 2, slot := 1, constantValue := 0 }]
  methods := #[k25m0]
  instanceTypes := #[.long, .long]
  staticTypes := #[]
  resolved := Array.replicate 24 none
  statics := none }

def pool26 : Array CpInfo := pool [(1, .methodref 2 3), (0, .class_ 4), (0, .nameAndType 5 6), (0, u "java/lang/Object"), (0, u "<init>"), (0, u "()V"), (0, .fieldref 8 9), (0, .class_ 10), (0, .nameAndType 11 12), (0, u "com/example/loomwire/loomwire/transport/MemoryBudget$Account"), (0, u "pool"), (0, u "Lcom/example/loomwire/loomwire/transport/MemoryBudget$Pool;"), (0, .fieldref 8 14), (0, .nameAndType 15 16), (0, u "taken"), (0, u "J"), (0, .fieldref 8 18), (0, .nameAndType 19 20), (0, u "closed"), (0, u "Z"), (1, .class_ 24), (1, u "com/example/loomwire/loomwire/transport/MemoryBudget$Pool"), (1, .fieldref 22 27), (0, .nameAndType 28 16), (0, u "used"), (2, u "force"), (0, u "(J)V"), (0, u "(Lcom/example/loomwire/loomwire/transport/MemoryBudget$Pool;)V"), (7, u "close"), (3, .class_ 46), (0, u "com/example/loomwire/loomwire/transport/MemoryBudget")] 3

def k26c0 : Code := { maxStack := 2, maxLocals := 2, code := prog_100_method_1_code, exceptionTable := #[], attributes := #[] }
def k26m0 : Method := { name := "<init>", desc := "(Lcom/example/loomwire/loomwire/transport/MemoryBudget$Pool;)V", sig := { parameters := [(.object "com/example/loomwire/loomwire/transport/MemoryBudget$Pool")], returnType := none }, accessFlags := 2, code := some k26c0 }
def k26c1 : Code := { maxStack := 5, maxLocals := 3, code := prog_100_method_4_code, exceptionTable := #[], attributes := #[] }
def k26m1 : Method := { name := "force", desc := "(J)V", sig := { parameters := [.long], returnType := none }, accessFlags := 0, code := some k26c1 }
def k26c2 : Code := { maxStack := 5, maxLocals := 1, code := prog_100_method_6_code, exceptionTable := #[], attributes := #[] }
def k26m2 : Method := { name := "close", desc := "()V", sig := { parameters := [], returnType := none }, accessFlags := 0, code := some k26c2 }
/-- com/example/loomwire/loomwire/transport/MemoryBudget$Account -/
def k26 : Class := { plain "com/example/loomwire/loomwire/transport/MemoryBudget$Account" (some 0) with
  accessFlags := 48
  interfaces := #[]
  cf := some (fileOf pool26 8 #[.nestHost 45] #[{ accessFlags := 2, nameIndex := 5, descriptorIndex := 33, attributes := #[] }, { accessFlags := 0, nameIndex := 31, descriptorIndex := 32, attributes := #[] }, { accessFlags := 0, nameIndex := 41, descriptorIndex := 6, attributes := #[] }] 48 2 #[] #[{ accessFlags := 18, nameIndex := 11, descriptorIndex := 12, attributes := #[] }, { accessFlags := 2, nameIndex := 15, descriptorIndex := 16, attributes := #[] }, { accessFlags := 2, nameIndex := 19, descriptorIndex := 20, attributes := #[] }])
  fields := #[{ name := "pool", type := (.object "com/example/loomwire/loomwire/transport/MemoryBudget$Pool"), accessFlags := 18, slot := 0, constantValue := 0 }, { name := "taken", type := .long, accessFlags := 2, slot := 1, constantValue := 0 }, { name := "closed", type := .boolean, accessFlags := 2, slot := 2, constantValue := 0 }]
  methods := #[k26m0, k26m1, k26m2]
  instanceTypes := #[(.object "com/example/loomwire/loomwire/transport/MemoryBudget$Pool"), .long, .boolean]
  staticTypes := #[]
  resolved := Array.replicate 50 none
  statics := none }

/-- the primitive byte -/
def k27 : Class := { plain "byte" none with kind := .primitive 'B', accessFlags := 0x411 }
/-- [B -/
def k28 : Class := { plain "[B" (some 0) with kind := .array 27 .byte, interfaces := #[8, 9], accessFlags := 1041 }

/-- the primitive int -/
def k29 : Class := { plain "int" none with kind := .primitive 'I', accessFlags := 0x411 }
/-- [I -/
def k30 : Class := { plain "[I" (some 0) with kind := .array 29 .int, interfaces := #[8, 9], accessFlags := 1041 }

def heap : Heap := #[]
def classes : Array Class := #[k0, k1, k2, k3, k4, k5, k6, k7, k8, k9, k10, k11, k12, k13, k14, k15, k16, k17, k18, k19, k20, k21, k22, k23, k24, k25, k26, k27, k28, k29, k30]
def interned : List (Array UInt16 × Addr) := []
def slotsUsed : Nat := 0
def theMethod : MethodId := ⟨1, 1⟩
def args0 : Array Value := #[.long 5, .long 6, .long 7, .long 8]
def aboutOver (below : List Frame) : State where
  vm := { classes := classes, interned := interned.toArray }
  heap := heap
  slotsUsed := slotsUsed
  threads := #[{ frames := .invoking theMethod args0 :: below }]
def below0 : List Frame := [.native { method := ⟨0, 0⟩, args := #[] }]
def about1 : State := aboutOver below0
def p0 : Program := .bare "" "" ""
def e0 : Env := launch0.env 0 0 0
theorem w_frames : about1.frames = Frame.invoking theMethod args0 :: below0 := rfl
set_option maxRecDepth 65536 in
theorem w_args : argsFit about1.vm theMethod args0 = true := by decide +kernel
set_option maxRecDepth 65536 in
theorem w_heap : heapFits about1 = true := by decide +kernel
set_option maxRecDepth 65536 in
theorem w_runnable : about1.curStatus? = some .runnable := by decide +kernel
set_option maxRecDepth 65536 in
theorem w_alone : about1.alone = true := by decide +kernel
set_option maxRecDepth 65536 in
theorem w_named : about1.methodNamed? x = some theMethod := by decide +kernel
set_option maxRecDepth 65536 in
theorem w_hears : about1.hears theMethod below0 = true := by decide +kernel
set_option maxRecDepth 65536 in
theorem w_ripe : about1.ripe theMethod args0 below0 = true := by decide +kernel
theorem w_running : about1.status = .running := rfl
set_option maxRecDepth 65536 in
theorem w_room : about1.hasRoom e0.platform room_1 = true :=
  launch0.hasRoom_least _ room_1 (by decide +kernel) (by decide +kernel) (by decide +kernel) (by decide +kernel) (by decide +kernel) (by decide +kernel)
theorem allAtoms_all (ts : List Jvm.Cond) (a : Array Jvm.Value) (st : Jvm.State) : (allAtoms ts).before a st = ts.all (fun c => c.before a st) := by
  induction ts with
  | nil => rfl
  | cons c t ih =>
    show (Jvm.Cond.and c (allAtoms t)).before a st = _
    rw [Jvm.Cond.before_and, ih, List.all_cons]
def words1 : List Jvm.Cond := Jvm.Cond.code x code maxLocals ret :: tables_1
/-- a 'code' word, met by the world's own term for the bytes: nothing is compared byte by byte -/
theorem code_word {y : MethodName} {bytes : ByteArray} {mx : Nat} {rt : Option FieldType} {a : Array Value} {s : State} {m : MethodId} {meth : Method} {c : Code} (h1 : s.methodNamed? y = some m) (h2 : s.vm.method? m = some meth) (h3 : meth.code = some c) (h4 : c.code = bytes)
    (h5 : (c.maxLocals == mx && c.exceptionTable.isEmpty && decide (c.maxStack ≤ mostOperands) && decide (meth.sig.returnType = rt) && !meth.locks && decide (parseMethodDescriptor y.desc = some meth.sig)) = true) : (Jvm.Cond.code y bytes mx rt).before a s = true := by
  simp only [Bool.and_eq_true, beq_iff_eq, Bool.not_eq_true', decide_eq_true_eq] at h5
  obtain ⟨⟨⟨⟨⟨g1, g2⟩, g3⟩, g4⟩, g5⟩, g6⟩ := h5
  simp [Cond.before, Cond.holds, Cond.value, h1, h2, h3, h4, g1, g2, g3, g4, g5, g6]
def isCode : Jvm.Cond → Bool
  | .code _ _ _ _ => true
  | _ => false
theorem all_split {L : List Jvm.Cond} {P : Jvm.Cond → Bool} (h1 : L.all (fun c => isCode c || P c) = true) (h2 : ∀ c ∈ L.filter isCode, P c = true) : L.all P = true := by
  refine List.all_eq_true.mpr fun c hc => ?_
  have h := List.all_eq_true.mp h1 c hc
  rcases Bool.eq_false_or_eq_true (isCode c) with hi | hi
  · exact h2 c (List.mem_filter.mpr ⟨hc, hi⟩)
  · simpa [hi] using h
set_option maxRecDepth 65536 in
theorem w_c0 : (Jvm.Cond.code x code maxLocals ret).before args0 about1 = true := code_word (m := ⟨1, 1⟩) (meth := k1m1) (c := k1c1) (by decide +kernel) rfl rfl rfl (by decide +kernel)
set_option maxRecDepth 65536 in
theorem w_c1 : (Jvm.Cond.code ({ cls := "com/example/loomwire/loomwire/transport/MemoryBudget", name := "<init>", desc := "(JJI)V" } : Jvm.MethodName) prog_99_method_1_code (6 : Nat) (Option.none : Option Jvm.ClassFile.FieldType)).before args0 about1 = true := code_word (m := ⟨2, 0⟩) (meth := k2m0) (c := k2c0) (by decide +kernel) rfl rfl rfl (by decide +kernel)
set_option maxRecDepth 65536 in
theorem w_c2 : (Jvm.Cond.code ({ cls := "java/lang/Object", name := "<init>", desc := "()V" } : Jvm.MethodName) object_method_1_code (1 : Nat) (Option.none : Option Jvm.ClassFile.FieldType)).before args0 about1 = true := code_word (m := ⟨0, 0⟩) (meth := k0m0) (c := k0c0) (by decide +kernel) rfl rfl rfl (by decide +kernel)
set_option maxRecDepth 65536 in
theorem w_c3 : (Jvm.Cond.code ({ cls := "java/util/LinkedHashSet", name := "<init>", desc := "()V" } : Jvm.MethodName) jdk_2620_method_3_code (1 : Nat) (Option.none : Option Jvm.ClassFile.FieldType)).before args0 about1 = true := code_word (m := ⟨13, 0⟩) (meth := k13m0) (c := k13c0) (by decide +kernel) rfl rfl rfl (by decide +kernel)
set_option maxRecDepth 65536 in
theorem w_c4 : (Jvm.Cond.code ({ cls := "java/util/HashSet", name := "<init>", desc := "(IFZ)V" } : Jvm.MethodName) jdk_93_method_5_code (4 : Nat) (Option.none : Option Jvm.ClassFile.FieldType)).before args0 about1 = true := code_word (m := ⟨10, 1⟩) (meth := k10m1) (c := k10c1) (by decide +kernel) rfl rfl rfl (by decide +kernel)
set_option maxRecDepth 65536 in
theorem w_c5 : (Jvm.Cond.code ({ cls := "java/util/AbstractSet", name := "<init>", desc := "()V" } : Jvm.MethodName) jdk_91_method_1_code (1 : Nat) (Option.none : Option Jvm.ClassFile.FieldType)).before args0 about1 = true := code_word (m := ⟨7, 0⟩) (meth := k7m0) (c := k7c0) (by decide +kernel) rfl rfl rfl (by decide +kernel)
set_option maxRecDepth 65536 in
theorem w_c6 : (Jvm.Cond.code ({ cls := "java/util/AbstractCollection", name := "<init>", desc := "()V" } : Jvm.MethodName) jdk_22_method_1_code (1 : Nat) (Option.none : Option Jvm.ClassFile.FieldType)).before args0 about1 = true := code_word (m := ⟨5, 0⟩) (meth := k5m0) (c := k5c0) (by decide +kernel) rfl rfl rfl (by decide +kernel)
set_option maxRecDepth 65536 in
theorem w_c7 : (Jvm.Cond.code ({ cls := "java/util/LinkedHashMap", name := "<init>", desc := "(IF)V" } : Jvm.MethodName) jdk_94_method_14_code (3 : Nat) (Option.none : Option Jvm.ClassFile.FieldType)).before args0 about1 = true := code_word (m := ⟨18, 0⟩) (meth := k18m0) (c := k18c0) (by decide +kernel) rfl rfl rfl (by decide +kernel)
set_option maxRecDepth 65536 in
theorem w_c8 : (Jvm.Cond.code ({ cls := "java/util/HashMap", name := "<init>", desc := "(IF)V" } : Jvm.MethodName) jdk_69_method_5_code (3 : Nat) (Option.none : Option Jvm.ClassFile.FieldType)).before args0 about1 = true := code_word (m := ⟨16, 1⟩) (meth := k16m1) (c := k16c1) (by decide +kernel) rfl rfl rfl (by decide +kernel)
set_option maxRecDepth 65536 in
theorem w_c9 : (Jvm.Cond.code ({ cls := "java/util/AbstractMap", name := "<init>", desc := "()V" } : Jvm.MethodName) jdk_71_method_1_code (1 : Nat) (Option.none : Option Jvm.ClassFile.FieldType)).before args0 about1 = true := code_word (m := ⟨15, 0⟩) (meth := k15m0) (c := k15c0) (by decide +kernel) rfl rfl rfl (by decide +kernel)
set_option maxRecDepth 65536 in
theorem w_c10 : (Jvm.Cond.code ({ cls := "java/lang/Float", name := "isNaN", desc := "(F)Z" } : Jvm.MethodName) jdk_118_method_6_code (1 : Nat) (Option.some Jvm.ClassFile.FieldType.boolean)).before args0 about1 = true := code_word (m := ⟨23, 0⟩) (meth := k23m0) (c := k23c0) (by decide +kernel) rfl rfl rfl (by decide +kernel)
set_option maxRecDepth 65536 in
theorem w_c11 : (Jvm.Cond.code ({ cls := "java/util/HashMap", name := "tableSizeFor", desc := "(I)I" } : Jvm.MethodName) jdk_69_method_4_code (2 : Nat) (Option.some Jvm.ClassFile.FieldType.int)).before args0 about1 = true := code_word (m := ⟨16, 0⟩) (meth := k16m0) (c := k16c0) (by decide +kernel) rfl rfl rfl (by decide +kernel)
set_option maxRecDepth 65536 in
theorem w_c12 : (Jvm.Cond.code ({ cls := "java/lang/Integer", name := "numberOfLeadingZeros", desc := "(I)I" } : Jvm.MethodName) jdk_33_method_47_code (2 : Nat) (Option.some Jvm.ClassFile.FieldType.int)).before args0 about1 = true := code_word (m := ⟨24, 0⟩) (meth := k24m0) (c := k24c0) (by decide +kernel) rfl rfl rfl (by decide +kernel)
set_option maxRecDepth 65536 in
theorem w_c13 : (Jvm.Cond.code ({ cls := "java/util/HashSet", name := "<init>", desc := "()V" } : Jvm.MethodName) jdk_93_method_1_code (1 : Nat) (Option.none : Option Jvm.ClassFile.FieldType)).before args0 about1 = true := code_word (m := ⟨10, 0⟩) (meth := k10m0) (c := k10c0) (by decide +kernel) rfl rfl rfl (by decide +kernel)
set_option maxRecDepth 65536 in
theorem w_c14 : (Jvm.Cond.code ({ cls := "java/util/HashMap", name := "<init>", desc := "()V" } : Jvm.MethodName) jdk_69_method_7_code (1 : Nat) (Option.none : Option Jvm.ClassFile.FieldType)).before args0 about1 = true := code_word (m := ⟨16, 2⟩) (meth := k16m2) (c := k16c2) (by decide +kernel) rfl rfl rfl (by decide +kernel)
set_option maxRecDepth 65536 in
theorem w_c15 : (Jvm.Cond.code ({ cls := "com/example/loomwire/loomwire/transport/MemoryBudget$Pool", name := "<init>", desc := "(J)V" } : Jvm.MethodName) prog_101_method_1_code (3 : Nat) (Option.none : Option Jvm.ClassFile.FieldType)).before args0 about1 = true := code_word (m := ⟨25, 0⟩) (meth := k25m0) (c := k25c0) (by decide +kernel) rfl rfl rfl (by decide +kernel)
set_option maxRecDepth 65536 in
theorem w_c16 : (Jvm.Cond.code ({ cls := "com/example/loomwire/loomwire/transport/MemoryBudget", name := "queuedRoom", desc := "()J" } : Jvm.MethodName) prog_99_method_12_code (1 : Nat) (Option.some Jvm.ClassFile.FieldType.long)).before args0 about1 = true := code_word (m := ⟨2, 3⟩) (meth := k2m3) (c := k2c3) (by decide +kernel) rfl rfl rfl (by decide +kernel)
set_option maxRecDepth 65536 in
theorem w_c17 : (Jvm.Cond.code ({ cls := "com/example/loomwire/loomwire/transport/MemoryBudget", name := "queuedAccount", desc := "()Lcom/example/loomwire/loomwire/transport/MemoryBudget$Account;" } : Jvm.MethodName) prog_99_method_7_code (1 : Nat) (Option.some (Jvm.ClassFile.FieldType.object "com/example/loomwire/loomwire/transport/MemoryBudget$Account"))).before args0 about1 = true := code_word (m := ⟨2, 2⟩) (meth := k2m2) (c := k2c2) (by decide +kernel) rfl rfl rfl (by decide +kernel)
set_option maxRecDepth 65536 in
theorem w_c18 : (Jvm.Cond.code ({ cls := "com/example/loomwire/loomwire/transport/MemoryBudget$Account", name := "<init>", desc := "(Lcom/example/loomwire/loomwire/transport/MemoryBudget$Pool;)V" } : Jvm.MethodName) prog_100_method_1_code (2 : Nat) (Option.none : Option Jvm.ClassFile.FieldType)).before args0 about1 = true := code_word (m := ⟨26, 0⟩) (meth := k26m0) (c := k26c0) (by decide +kernel) rfl rfl rfl (by decide +kernel)
set_option maxRecDepth 65536 in
theorem w_c19 : (Jvm.Cond.code ({ cls := "com/example/loomwire/loomwire/transport/MemoryBudget$Account", name := "force", desc := "(J)V" } : Jvm.MethodName) prog_100_method_4_code (3 : Nat) (Option.none : Option Jvm.ClassFile.FieldType)).before args0 about1 = true := code_word (m := ⟨26, 1⟩) (meth := k26m1) (c := k26c1) (by decide +kernel) rfl rfl rfl (by decide +kernel)
set_option maxRecDepth 65536 in
theorem w_c20 : (Jvm.Cond.code ({ cls := "com/example/loomwire/loomwire/transport/MemoryBudget", name := "heldAccount", desc := "()Lcom/example/loomwire/loomwire/transport/MemoryBudget$Account;" } : Jvm.MethodName) prog_99_method_6_code (1 : Nat) (Option.some (Jvm.ClassFile.FieldType.object "com/example/loomwire/loomwire/transport/MemoryBudget$Account"))).before args0 about1 = true := code_word (m := ⟨2, 1⟩) (meth := k2m1) (c := k2c1) (by decide +kernel) rfl rfl rfl (by decide +kernel)
set_option maxRecDepth 65536 in
theorem w_c21 : (Jvm.Cond.code ({ cls := "com/example/loomwire/loomwire/transport/MemoryBudget$Account", name := "close", desc := "()V" } : Jvm.MethodName) prog_100_method_6_code (1 : Nat) (Option.none : Option Jvm.ClassFile.FieldType)).before args0 about1 = true := code_word (m := ⟨26, 2⟩) (meth := k26m2) (c := k26c2) (by decide +kernel) rfl rfl rfl (by decide +kernel)
def codes1 : List Jvm.Cond := [Jvm.Cond.code x code maxLocals ret, Jvm.Cond.code ({ cls := "com/example/loomwire/loomwire/transport/MemoryBudget", name := "<init>", desc := "(JJI)V" } : Jvm.MethodName) prog_99_method_1_code (6 : Nat) (Option.none : Option Jvm.ClassFile.FieldType), Jvm.Cond.code ({ cls := "java/lang/Object", name := "<init>", desc := "()V" } : Jvm.MethodName) object_method_1_code (1 : Nat) (Option.none : Option Jvm.ClassFile.FieldType), Jvm.Cond.code ({ cls := "java/util/LinkedHashSet", name := "<init>", desc := "()V" } : Jvm.MethodName) jdk_2620_method_3_code (1 : Nat) (Option.none : Option Jvm.ClassFile.FieldType), Jvm.Cond.code ({ cls := "java/util/HashSet", name := "<init>", desc := "(IFZ)V" } : Jvm.MethodName) jdk_93_method_5_code (4 : Nat) (Option.none : Option Jvm.ClassFile.FieldType), Jvm.Cond.code ({ cls := "java/util/AbstractSet", name := "<init>", desc := "()V" } : Jvm.MethodName) jdk_91_method_1_code (1 : Nat) (Option.none : Option Jvm.ClassFile.FieldType), Jvm.Cond.code ({ cls := "java/util/AbstractCollection", name := "<init>", desc := "()V" } : Jvm.MethodName) jdk_22_method_1_code (1 : Nat) (Option.none : Option Jvm.ClassFile.FieldType), Jvm.Cond.code ({ cls := "java/util/LinkedHashMap", name := "<init>", desc := "(IF)V" } : Jvm.MethodName) jdk_94_method_14_code (3 : Nat) (Option.none : Option Jvm.ClassFile.FieldType), Jvm.Cond.code ({ cls := "java/util/HashMap", name := "<init>", desc := "(IF)V" } : Jvm.MethodName) jdk_69_method_5_code (3 : Nat) (Option.none : Option Jvm.ClassFile.FieldType), Jvm.Cond.code ({ cls := "java/util/AbstractMap", name := "<init>", desc := "()V" } : Jvm.MethodName) jdk_71_method_1_code (1 : Nat) (Option.none : Option Jvm.ClassFile.FieldType), Jvm.Cond.code ({ cls := "java/lang/Float", name := "isNaN", desc := "(F)Z" } : Jvm.MethodName) jdk_118_method_6_code (1 : Nat) (Option.some Jvm.ClassFile.FieldType.boolean), Jvm.Cond.code ({ cls := "java/util/HashMap", name := "tableSizeFor", desc := "(I)I" } : Jvm.MethodName) jdk_69_method_4_code (2 : Nat) (Option.some Jvm.ClassFile.FieldType.int), Jvm.Cond.code ({ cls := "java/lang/Integer", name := "numberOfLeadingZeros", desc := "(I)I" } : Jvm.MethodName) jdk_33_method_47_code (2 : Nat) (Option.some Jvm.ClassFile.FieldType.int), Jvm.Cond.code ({ cls := "java/util/HashSet", name := "<init>", desc := "()V" } : Jvm.MethodName) jdk_93_method_1_code (1 : Nat) (Option.none : Option Jvm.ClassFile.FieldType), Jvm.Cond.code ({ cls := "java/util/HashMap", name := "<init>", desc := "()V" } : Jvm.MethodName) jdk_69_method_7_code (1 : Nat) (Option.none : Option Jvm.ClassFile.FieldType), Jvm.Cond.code ({ cls := "com/example/loomwire/loomwire/transport/MemoryBudget$Pool", name := "<init>", desc := "(J)V" } : Jvm.MethodName) prog_101_method_1_code (3 : Nat) (Option.none : Option Jvm.ClassFile.FieldType), Jvm.Cond.code ({ cls := "com/example/loomwire/loomwire/transport/MemoryBudget", name := "queuedRoom", desc := "()J" } : Jvm.MethodName) prog_99_method_12_code (1 : Nat) (Option.some Jvm.ClassFile.FieldType.long), Jvm.Cond.code ({ cls := "com/example/loomwire/loomwire/transport/MemoryBudget", name := "queuedAccount", desc := "()Lcom/example/loomwire/loomwire/transport/MemoryBudget$Account;" } : Jvm.MethodName) prog_99_method_7_code (1 : Nat) (Option.some (Jvm.ClassFile.FieldType.object "com/example/loomwire/loomwire/transport/MemoryBudget$Account")), Jvm.Cond.code ({ cls := "com/example/loomwire/loomwire/transport/MemoryBudget$Account", name := "<init>", desc := "(Lcom/example/loomwire/loomwire/transport/MemoryBudget$Pool;)V" } : Jvm.MethodName) prog_100_method_1_code (2 : Nat) (Option.none : Option Jvm.ClassFile.FieldType), Jvm.Cond.code ({ cls := "com/example/loomwire/loomwire/transport/MemoryBudget$Account", name := "force", desc := "(J)V" } : Jvm.MethodName) prog_100_method_4_code (3 : Nat) (Option.none : Option Jvm.ClassFile.FieldType), Jvm.Cond.code ({ cls := "com/example/loomwire/loomwire/transport/MemoryBudget", name := "heldAccount", desc := "()Lcom/example/loomwire/loomwire/transport/MemoryBudget$Account;" } : Jvm.MethodName) prog_99_method_6_code (1 : Nat) (Option.some (Jvm.ClassFile.FieldType.object "com/example/loomwire/loomwire/transport/MemoryBudget$Account")), Jvm.Cond.code ({ cls := "com/example/loomwire/loomwire/transport/MemoryBudget$Account", name := "close", desc := "()V" } : Jvm.MethodName) prog_100_method_6_code (1 : Nat) (Option.none : Option Jvm.ClassFile.FieldType)]
set_option maxRecDepth 65536 in
theorem codes_eq : words1.filter isCode = codes1 := rfl
theorem w_codes : ∀ c ∈ words1.filter isCode, c.before args0 about1 = true := by
  rw [codes_eq]
  intro c hc
  simp only [codes1, List.mem_cons, List.not_mem_nil, or_false] at hc
  rcases hc with rfl | rfl | rfl | rfl | rfl | rfl | rfl | rfl | rfl | rfl | rfl | rfl | rfl | rfl | rfl | rfl | rfl | rfl | rfl | rfl | rfl | rfl
  · exact w_c0
  · exact w_c1
  · exact w_c2
  · exact w_c3
  · exact w_c4
  · exact w_c5
  · exact w_c6
  · exact w_c7
  · exact w_c8
  · exact w_c9
  · exact w_c10
  · exact w_c11
  · exact w_c12
  · exact w_c13
  · exact w_c14
  · exact w_c15
  · exact w_c16
  · exact w_c17
  · exact w_c18
  · exact w_c19
  · exact w_c20
  · exact w_c21
set_option maxRecDepth 65536 in
theorem w_t1 : (words1.take 24).all (fun c => isCode c || c.before args0 about1) = true := by decide +kernel
set_option maxRecDepth 65536 in
theorem w_t2 : ((words1.drop 24).take 24).all (fun c => isCode c || c.before args0 about1) = true := by decide +kernel
set_option maxRecDepth 65536 in
theorem w_t3 : (((words1.drop 24).drop 24).take 24).all (fun c => isCode c || c.before args0 about1) = true := by decide +kernel
set_option maxRecDepth 65536 in
theorem w_t4 : ((((words1.drop 24).drop 24).drop 24).take 24).all (fun c => isCode c || c.before args0 about1) = true := by decide +kernel
set_option maxRecDepth 65536 in
theorem w_t5 : (((((words1.drop 24).drop 24).drop 24).drop 24).take 24).all (fun c => isCode c || c.before args0 about1) = true := by decide +kernel
set_option maxRecDepth 65536 in
theorem w_t6 : ((((((words1.drop 24).drop 24).drop 24).drop 24).drop 24).take 24).all (fun c => isCode c || c.before args0 about1) = true := by decide +kernel
set_option maxRecDepth 65536 in
theorem w_t7 : ((((((words1.drop 24).drop 24).drop 24).drop 24).drop 24).drop 24).all (fun c => isCode c || c.before args0 about1) = true := by decide +kernel
theorem w_tables : (allAtoms (Jvm.Cond.code x code maxLocals ret :: tables_1)).before args0 about1 = true := by
  rw [allAtoms_all]
  show words1.all (fun c => c.before args0 about1) = true
  refine all_split ?_ w_codes
  rw [← List.take_append_drop 24 words1, List.all_append, w_t1, ← List.take_append_drop 24 (words1.drop 24), List.all_append, w_t2, ← List.take_append_drop 24 ((words1.drop 24).drop 24), List.all_append, w_t3, ← List.take_append_drop 24 (((words1.drop 24).drop 24).drop 24), List.all_append, w_t4, ← List.take_append_drop 24 ((((words1.drop 24).drop 24).drop 24).drop 24), List.all_append, w_t5, ← List.take_append_drop 24 (((((words1.drop 24).drop 24).drop 24).drop 24).drop 24), List.all_append, w_t6, w_t7]
  rfl
set_option maxRecDepth 65536 in
theorem w_case : (Jvm.Cond.and given_1 narrow_1).before args0 about1 = true := by decide +kernel
theorem w_applies : (headSpec (Jvm.Cond.code x code maxLocals ret :: tables_1) room_1).applies x e0.platform about1 = true :=
  (Spec.applies_iff w_frames).mpr ⟨w_running, w_runnable, w_alone, w_named, w_hears, w_ripe, w_room, w_tables⟩
theorem atStart : AtStart classFile x code maxLocals ret World_1 tables_1 room_1 Calls_1 rest_1 Pre_1 launch0 p0 e0 about1 theMethod args0 below0 :=
  ⟨lists_1, trivial, launch0.admits_env _ _ _, launch0.least_env, fairChoices_fair.cas, fairChoices_fair.clock, w_frames, w_args, w_heap, w_applies, trivial, trivial, w_case⟩
end start1
theorem witness_1 : WitnessClaimed_1 := ⟨start1.p0, start1.e0, start1.about1, start1.theMethod, start1.args0, start1.below0, start1.atStart⟩
end Jvm.Pilot.@@N@@
