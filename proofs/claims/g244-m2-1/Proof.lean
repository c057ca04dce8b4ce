import JvmDerived
import JvmDerived.Pilot.@@N@@Statement
import JvmDerived.Pilot.@@N@@Code
set_option linter.unusedVariables false
set_option linter.unusedSimpArgs false
namespace Jvm.Pilot.@@N@@
open Jvm Jvm.ClassFile Sem Op Lib Jvm.Free Jvm.Stand Jvm.LawKit Jvm.RoadKit Bundle Jvm.Pilot.@@N@@.Jvm.D
/-! 0. the frame of a walk: from state A the body comes to an end of which Q holds -/
def own_G (tb : Tables) (e : Env) (below : List Frame) (s : State) (Q : Option Value → Heap → List Loc → Prop) (k n : Nat) (A : State) : Prop :=
  ∃ t o, Steps tb e below A t ∧ t.status = .running ∧ Ended t below o ∧ ∃ v L, o = .returned v ∧ Q v t.heap L ∧ FrameEnd s o t L k n
theorem own_step {tb : Tables} {e : Env} {below : List Frame} {s : State} {Q : Option Value → Heap → List Loc → Prop} {k n : Nat} {A B : State}
    (h : ∀ t, Steps tb e below B t → Steps tb e below A t) (g : own_G tb e below s Q k n B) : own_G tb e below s Q k n A := by
  obtain ⟨t, o, h1, h2⟩ := g
  exact ⟨t, o, h t h1, h2⟩
section Rets
variable {p : Program} {l : Launch} {e : Env} {R : Room} {s : State} {m : MethodId} {args : Array Value} {below : List Frame} {meth : Method} {c : Code} {T : State} {locs : List Loc} {cells slots : Nat} {Q : Option Value → Heap → List Loc → Prop} {k n : Nat}
theorem own_out (X : Stand p l e R s m args below meth c T locs cells slots) {v : Option Value} (hv : meth.sig.returnType = none → v = none) (hlk : meth.locks = false) {F : JFrame}
    (hs : ∀ fs, (∀ (f : JFrame) (acts : List Action), f.method = m → f.locked = none → f.entered = [] → (doReturn e (T.setTop f) acts v).1 = T.setFrames fs) → Steps p.tables e below (T.setTop F) (T.setFrames fs))
    (hk : cells ≤ k) (hn : slots ≤ n) (hQ : Q v T.heap locs) : own_G p.tables e below s Q k n (T.setTop F) := by
  obtain ⟨fs, hr, hrun, hended, hW, hsame⟩ := X.leave hv hlk
  exact ⟨_, _, hs fs hr, hrun, hended, _, _, rfl, hQ, ⟨_, rfl⟩, hW, hsame.mono hk hn⟩
theorem own_retV (X : Stand p l e R s m args below meth c T locs cells slots) (hx : p.tables.exec = Jvm.exec) (hlk : meth.locks = false) {pc : Nat} {Ls : Array Slot} (hret : meth.sig.returnType = none) (hd : decode c.code pc = .ok (.return_, 1))
    (hk : cells ≤ k) (hn : slots ≤ n) (hQ : Q none T.heap locs) : own_G p.tables e below s Q k n (T.setTop (mkF m pc Ls [])) :=
  own_out X (fun _ => rfl) hlk (fun fs hr => X.returnOut hx hret hd hr) hk hn hQ
theorem own_retN (X : Stand p l e R s m args below meth c T locs cells slots) (hx : p.tables.exec = Jvm.exec) (hlk : meth.locks = false) {pc : Nat} {Ls : Array Slot} {z : Int32} {t : FieldType} {rest : List Value} (hret : meth.sig.returnType = some t) (ht : t = .boolean ∨ t = .byte ∨ t = .char ∨ t = .short) (hd : decode c.code pc = .ok (.ireturn, 1))
    (hk : cells ≤ k) (hn : slots ≤ n) (hQ : Q (some (.int (nar t z))) T.heap locs) : own_G p.tables e below s Q k n (T.setTop (mkF m pc Ls (.int z :: rest))) :=
  own_out X (fun h => by rw [hret] at h; cases h) hlk (fun fs hr => retN X hx hret ht hd hr) hk hn hQ
theorem own_retI (X : Stand p l e R s m args below meth c T locs cells slots) (hx : p.tables.exec = Jvm.exec) (hlk : meth.locks = false) {pc : Nat} {Ls : Array Slot} {z : Int32} {rest : List Value} (hret : meth.sig.returnType = some .int) (hd : decode c.code pc = .ok (.ireturn, 1))
    (hk : cells ≤ k) (hn : slots ≤ n) (hQ : Q (some (.int z)) T.heap locs) : own_G p.tables e below s Q k n (T.setTop (mkF m pc Ls (.int z :: rest))) :=
  own_out X (fun h => by rw [hret] at h; cases h) hlk (fun fs hr => retOut X hx hret rfl (Or.inl ⟨rfl, Or.inl rfl, _, rfl⟩) hd hr) hk hn hQ
theorem own_retJ (X : Stand p l e R s m args below meth c T locs cells slots) (hx : p.tables.exec = Jvm.exec) (hlk : meth.locks = false) {pc : Nat} {Ls : Array Slot} {z : Int64} {rest : List Value} (hret : meth.sig.returnType = some .long) (hd : decode c.code pc = .ok (.lreturn, 1))
    (hk : cells ≤ k) (hn : slots ≤ n) (hQ : Q (some (.long z)) T.heap locs) : own_G p.tables e below s Q k n (T.setTop (mkF m pc Ls (.long z :: rest))) :=
  own_out X (fun h => by rw [hret] at h; cases h) hlk (fun fs hr => retOut X hx hret rfl (Or.inr (Or.inl ⟨rfl, rfl, _, rfl⟩)) hd hr) hk hn hQ
theorem own_retA (X : Stand p l e R s m args below meth c T locs cells slots) (hx : p.tables.exec = Jvm.exec) (hlk : meth.locks = false) {pc : Nat} {Ls : Array Slot} {a : Addr} {t : FieldType} {rest : List Value} (hret : meth.sig.returnType = some t) (hd : decode c.code pc = .ok (.areturn, 1)) (ht : t.isReference = true)
    (hk : cells ≤ k) (hn : slots ≤ n) (hQ : Q (some (.ref a)) T.heap locs) : own_G p.tables e below s Q k n (T.setTop (mkF m pc Ls (.ref a :: rest))) :=
  own_out X (fun h => by rw [hret] at h; cases h) hlk (fun fs hr => retOut X hx hret (by cases t <;> first | rfl | cases ht) (Or.inr (Or.inr (Or.inr (Or.inr ⟨rfl, ht, rfl⟩)))) hd hr) hk hn hQ
end Rets
theorem ow {a0 : Array Value} {Z : State} (hw : ∀ d ∈ tables_1, d.before a0 Z = true) (i : Nat) {d : Jvm.Cond} (h : tables_1[i]? = some d) : d.before a0 Z = true := hw _ (List.mem_of_getElem? h)
theorem oS {tb : Tables} {e : Env} {below : List Frame} {s : State} {Q : Option Value → Heap → List Loc → Prop} {k n : Nat} {A B : State} (h : ∀ t, Steps tb e below B t → Steps tb e below A t) (g : own_G tb e below s Q k n B) : own_G tb e below s Q k n A := own_step h g

theorem pd_0 : parseMethodDescriptor "(I)I" = some ⟨[.int], some .int⟩ := by decide +kernel
theorem pd_1 : parseMethodDescriptor "(II)I" = some ⟨[.int, .int], some .int⟩ := by decide +kernel
theorem pd_2 : parseMethodDescriptor "()V" = some ⟨[], none⟩ := by decide +kernel
theorem pd_3 : parseMethodDescriptor "(I)[Ljava/lang/Object;" = some ⟨[.int], some (.array (.object "java/lang/Object"))⟩ := by decide +kernel
theorem pd_4 : parseMethodDescriptor "()[Ljava/lang/Object;" = some ⟨[], some (.array (.object "java/lang/Object"))⟩ := by decide +kernel
theorem pd_5 : parseMethodDescriptor "(Ljava/lang/Object;[Ljava/lang/Object;I)V" = some ⟨[(.object "java/lang/Object"), (.array (.object "java/lang/Object")), .int], none⟩ := by decide +kernel
theorem pd_6 : parseMethodDescriptor "([BI)[B" = some ⟨[(.array .byte), .int], some (.array .byte)⟩ := by decide +kernel
theorem pd_7 : parseMethodDescriptor "(Ljava/lang/Object;)Z" = some ⟨[(.object "java/lang/Object")], some .boolean⟩ := by decide +kernel
theorem pd_8 : parseMethodDescriptor "([B)V" = some ⟨[(.array .byte)], none⟩ := by decide +kernel
theorem pd_9 : parseMethodDescriptor "()I" = some ⟨[], some .int⟩ := by decide +kernel
theorem pd_10 : parseMethodDescriptor "()[B" = some ⟨[], some (.array .byte)⟩ := by decide +kernel
/-! 0b. what stood before the law: the two statics -/
def own_Base (Z : State) (em : Addr) (ke : ClassId) (de : Addr) (kd : ClassId) : Prop :=
  Sta Z Z.heap "com/example/loomwire/loomwire/transport/MessageBuffer" "EMPTY" "[B" (.ref em) ∧ Exa Z Z.heap em "[B" ∧ Arv Z Z.heap em ke .byte (0 : Int32) [] (.int 0) ∧
  Sta Z Z.heap "java/util/ArrayList" "DEFAULTCAPACITY_EMPTY_ELEMENTDATA" "[Ljava/lang/Object;" (.ref de) ∧ Arv Z Z.heap de kd (.object "java/lang/Object") (0 : Int32) [] .null
theorem own_zero_arr {Z : State} {args : Array Value} {t : Term} {ty : FieldType} {a : Addr} {dv : Value} (hf : Fit Z) (ev : t.eval args Z none [] Z = some (.ref a)) (ha : (Cond.arrayOf t ty).value args Z none Z [] = some true)
    (hl : (Cond.eq (Term.length t) (.int 0)).before args Z = true) : ∃ k, Arv Z Z.heap a k ty (0 : Int32) [] dv := by
  obtain ⟨c, A⟩ := Arr.start ev ha
  have hlen := Cond.eq_int hl rfl
  obtain ⟨sd, SA, hev, harrAt, hv⟩ := Term.length_spec hlen
  cases ev.symm.trans hev
  have h31 := SBG.length_lt hev harrAt hlen
  have hc := (State.arrayAt?_spec harrAt).1
  cases A.1.symm.trans hc
  have e : c.slots.size.toInt32 = 0 := by injection hv.symm
  exact ⟨_, Arv.start hf A h31 e (by decide) rfl trivial⟩
section Put
variable {Z : State} {h h' : Heap} {a : Addr} {k : ClassId} {z j x : Int32} {vs : List Value} {d : Value}
theorem own_put (V : Arv Z h a k .byte z vs d) (W : Wr h h' a j.toNatClampNeg (.int (nar .byte x))) : ∃ vs', Arv Z h' a k .byte z vs' d := by
  obtain ⟨c, A, q1, S, q3, H, G⟩ := V.pad (pad_rep vs d (j.toNatClampNeg + 1))
  exact ⟨_, Arv.set A q1 S q3 H G (fits_nar_byte _) W j.toNatClampNeg rfl (by simp; omega)⟩
theorem own_len (n : Nat) (d : Value) (us : List Value) (h : us.length ≤ n) : (List.take 0 ([] ++ List.replicate n d) ++ us ++ List.drop us.length ([] ++ List.replicate n d)).length = n := by simp; omega
theorem own_len0 (k : Nat) (d : Value) (f : Nat → Value) : (List.take ((0 : Int32).toNatClampNeg) ([] ++ List.replicate k d) ++ (List.range ((0 : Int32).toNatClampNeg)).map f ++ List.drop ((0 : Int32).toNatClampNeg + (0 : Int32).toNatClampNeg) ([] ++ List.replicate k d)).length = k := by
  have h : (0 : Int32).toNatClampNeg = 0 := by decide
  rw [h]; simp
theorem own_take (vd us : List Value) (n : Nat) (d d' : Value) (f : Nat → Value) (h : us = (List.range n).map f) : ∀ i, i < n → (vd.take 0 ++ us ++ vd.drop (0 + n)).getD i d' = f i := by
  intro i hi
  subst h
  rw [List.getD_eq_getElem?_getD, List.take_zero, List.nil_append, List.getElem?_append_left (by simpa using hi)]
  simp [hi]
end Put
theorem own_weaken {l : Launch} {y : MethodName} {S : Spec} {P : Array Value → State → Prop} {Kc : Program → Env → List Frame → State → Array Value → Prop} {Q Q' : Option Value → Heap → List Loc → Prop} {k n : Nat}
    (h : MetFree l y S P Kc (fun _ U o U' => ∃ v L, o = .returned v ∧ Q v U'.heap L ∧ FrameEnd U o U' L k n)) (w : ∀ v H L, Q v H L → Q' v H L) : MetFree l y S P Kc (fun _ U o U' => ∃ v L, o = .returned v ∧ Q' v U'.heap L ∧ FrameEnd U o U' L k n) := by
  intro p e h1 h2 h3 s m args below h4 h5 h6 h7
  obtain ⟨a, b, c, d, e', v, L, q1, q2, q3⟩ := h p e h1 h2 h3 s m args below h4 h5 h6 h7
  exact ⟨a, b, c, d, e', v, L, q1, w _ _ _ q2, q3⟩

def own_min (a b : Int32) : Int32 := if b < a then b else a
theorem d9_0 : decode prog_102_method_7_code 0 = .ok (.iload_n 0, 1) := by decide +kernel
theorem d9_1 : decode prog_102_method_7_code 1 = .ok (.iconst 1, 1) := by decide +kernel
theorem d9_2 : decode prog_102_method_7_code 2 = .ok (.if_icmp .gt 7, 3) := by decide +kernel
theorem d9_5 : decode prog_102_method_7_code 5 = .ok (.iload_n 0, 1) := by decide +kernel
theorem d9_6 : decode prog_102_method_7_code 6 = .ok (.goto 11, 3) := by decide +kernel
theorem d9_17 : decode prog_102_method_7_code 17 = .ok (.ireturn, 1) := by decide +kernel
theorem pn_com_example_loomwire_loomwire_transport_MessageBuffer : plainName "com/example/loomwire/loomwire/transport/MessageBuffer" = true := by first | (simp [plainName, overriddenIn]; done) | decide +kernel
theorem ef_rm9_1 (m : MethodId) (x0 : Int32) : entryFrame m #[(.int x0)] 1 = mkF m 0 #[iv x0] [] := by first | (simp [entryFrame, mkF, argsToLocals, Value.category]; done) | rfl
def QQ_rm9_1 (Z : State)   (h0 : Heap) (n0 : Nat) (v : Option Value) (h : Heap) (L : List Loc) : Prop := v = some (.int 1) ∧ Fr n0 L ∧ h = h0
set_option maxRecDepth 65536 in
set_option maxHeartbeats 40000000 in
theorem rm9_1 (l : Launch) (Z : State) (a0 : Array Value) (hw : ∀ d ∈ tables_1, d.before a0 Z = true) (ws : List Jvm.Cond)   (h0 : Heap) (n0 : Nat) (Z0 : n0 ≤ h0.size)  :
    MetFree l (⟨"com/example/loomwire/loomwire/transport/MessageBuffer", "chunkCapacity", "(I)I"⟩ : MethodName) (head1 (Jvm.Cond.code (⟨"com/example/loomwire/loomwire/transport/MessageBuffer", "chunkCapacity", "(I)I"⟩ : MethodName) prog_102_method_7_code 1 (some .int) :: ws) ({ frames := 2, cells := 0, slots := 0, locals := 27 } : Room)) (fun a U => a = #[(.int 1)] ∧ Z.Warmed39 U.vm ∧ U.heap = h0) (fun _ _ _ _ _ => True) (fun _ U o U' => ∃ v L, o = .returned v ∧ (QQ_rm9_1 Z  h0 n0) v U'.heap L ∧ FrameEnd U o U' L ({ frames := 2, cells := 0, slots := 0, locals := 27 } : Room).cells ({ frames := 2, cells := 0, slots := 0, locals := 27 } : Room).slots) := by
  refine MetFree.of_bodySF (plainFor_of_name pn_com_example_loomwire_loomwire_transport_MessageBuffer) hisR ?_
  intro p e s m args below meth c s₁ Bd hml0 hP hK
  obtain ⟨rfl, hZ, hh⟩ := hP
  have hx := Bd.exec
  have hby := Bd.bytes
  have hlk : meth.locks = false := BodyLoose.notSynchronized Bd
  have hml : c.maxLocals = 1 := hml0
  have hown : s.vm.findClass "com/example/loomwire/loomwire/transport/MessageBuffer" = some m.cls := findClass_of_methodNamed Bd.named
  have hnm := (name_of_methodNamed Bd.named Bd.method).1
  have X0 : Stand p l e ({ frames := 2, cells := 0, slots := 0, locals := 27 } : Room) s m #[(.int 1)] below meth c s₁ [] 0 0 := Stand.of_body Bd
  have e0 : s₁.heap = h0 := by rw [← hh, Bd.state]; rfl
  have N0 := Fr.nil n0
  show own_G p.tables e below s (QQ_rm9_1 Z  h0 n0) ({ frames := 2, cells := 0, slots := 0, locals := 27 } : Room).cells ({ frames := 2, cells := 0, slots := 0, locals := 27 } : Room).slots (s₁.setTop (entryFrame m #[(.int 1)] 1))
  refine oS (B := s₁.setTop (mkF m 0 #[iv 1] [])) (fun t k => castTop (ef_rm9_1 m (1 : Int32)) k) ?_
  refine oS (B := s₁.setTop (mkF m 1 #[iv 1] [(.int 1)])) (fun t k => XS.iloadN X0.here hx rfl (hb hby d9_0) rfl k) ?_
  refine oS (B := s₁.setTop (mkF m 2 #[iv 1] [(.int 1), (.int 1)])) (fun t k => XS.iconst X0.here hx rfl (hb hby d9_1) k) ?_
  refine oS (B := s₁.setTop (mkF m 5 #[iv 1] [])) (fun t k => XS.icmpNo X0.here hx rfl (hb hby d9_2) rfl (flt (by decide)).2.2.1 k) ?_
  refine oS (B := s₁.setTop (mkF m 6 #[iv 1] [(.int 1)])) (fun t k => XS.iloadN X0.here hx rfl (hb hby d9_5) rfl k) ?_
  refine oS (B := s₁.setTop (mkF m 17 #[iv 1] [(.int 1)])) (fun t k => XS.goto X0.here hx rfl (pc0 := 6) (pc' := 17) rfl (hb hby d9_6) (by decide) (by decide) k) ?_
  exact own_retI X0 hx hlk Bd.returns (hb hby d9_17) (by decide) (by decide) (by exact ⟨rfl, N0, e0⟩)
theorem d11_0 : decode jdk_33_method_47_code 0 = .ok (.iload_n 0, 1) := by decide +kernel
theorem d11_1 : decode jdk_33_method_47_code 1 = .ok (.ifCond .gt 14, 3) := by decide +kernel
theorem d11_15 : decode jdk_33_method_47_code 15 = .ok (.bipush 31, 2) := by decide +kernel
theorem d11_17 : decode jdk_33_method_47_code 17 = .ok (.istore_n 1, 1) := by decide +kernel
theorem d11_18 : decode jdk_33_method_47_code 18 = .ok (.iload_n 0, 1) := by decide +kernel
theorem d11_19 : decode jdk_33_method_47_code 19 = .ok (.ldc_w 264, 3) := by decide +kernel
theorem d11_22 : decode jdk_33_method_47_code 22 = .ok (.if_icmp .lt 11, 3) := by decide +kernel
theorem d11_33 : decode jdk_33_method_47_code 33 = .ok (.iload_n 0, 1) := by decide +kernel
theorem d11_34 : decode jdk_33_method_47_code 34 = .ok (.sipush 256, 3) := by decide +kernel
theorem d11_37 : decode jdk_33_method_47_code 37 = .ok (.if_icmp .lt 11, 3) := by decide +kernel
theorem d11_48 : decode jdk_33_method_47_code 48 = .ok (.iload_n 0, 1) := by decide +kernel
theorem d11_49 : decode jdk_33_method_47_code 49 = .ok (.bipush 16, 2) := by decide +kernel
theorem d11_51 : decode jdk_33_method_47_code 51 = .ok (.if_icmp .lt 10, 3) := by decide +kernel
theorem d11_61 : decode jdk_33_method_47_code 61 = .ok (.iload_n 0, 1) := by decide +kernel
theorem d11_62 : decode jdk_33_method_47_code 62 = .ok (.iconst 4, 1) := by decide +kernel
theorem d11_63 : decode jdk_33_method_47_code 63 = .ok (.if_icmp .lt 10, 3) := by decide +kernel
theorem d11_73 : decode jdk_33_method_47_code 73 = .ok (.iload_n 1, 1) := by decide +kernel
theorem d11_74 : decode jdk_33_method_47_code 74 = .ok (.iload_n 0, 1) := by decide +kernel
theorem d11_75 : decode jdk_33_method_47_code 75 = .ok (.iconst 1, 1) := by decide +kernel
theorem d11_76 : decode jdk_33_method_47_code 76 = .ok (.iushr, 1) := by decide +kernel
theorem d11_77 : decode jdk_33_method_47_code 77 = .ok (.isub, 1) := by decide +kernel
theorem d11_78 : decode jdk_33_method_47_code 78 = .ok (.ireturn, 1) := by decide +kernel
theorem pn_java_lang_Integer : plainName "java/lang/Integer" = true := by first | (simp [plainName, overriddenIn]; done) | decide +kernel
theorem ef_rm11_2 (m : MethodId) (x0 : Int32) : entryFrame m #[(.int x0)] 2 = mkF m 0 #[iv x0, .unset] [] := by first | (simp [entryFrame, mkF, argsToLocals, Value.category]; done) | rfl
def QQ_rm11_2 (Z : State)   (h0 : Heap) (n0 : Nat) (v : Option Value) (h : Heap) (L : List Loc) : Prop := v = some (.int 31) ∧ Fr n0 L ∧ h = h0
set_option maxRecDepth 65536 in
set_option maxHeartbeats 40000000 in
theorem rm11_2 (l : Launch) (Z : State) (a0 : Array Value) (hw : ∀ d ∈ tables_1, d.before a0 Z = true) (ws : List Jvm.Cond)   (h0 : Heap) (n0 : Nat) (Z0 : n0 ≤ h0.size)  :
    MetFree l (⟨"java/lang/Integer", "numberOfLeadingZeros", "(I)I"⟩ : MethodName) (head1 (Jvm.Cond.code (⟨"java/lang/Integer", "numberOfLeadingZeros", "(I)I"⟩ : MethodName) jdk_33_method_47_code 2 (some .int) :: ws) ({ frames := 0, cells := 0, slots := 0, locals := 0 } : Room)) (fun a U => a = #[(.int 1)] ∧ Z.Warmed39 U.vm ∧ U.heap = h0) (fun _ _ _ _ _ => True) (fun _ U o U' => ∃ v L, o = .returned v ∧ (QQ_rm11_2 Z  h0 n0) v U'.heap L ∧ FrameEnd U o U' L ({ frames := 0, cells := 0, slots := 0, locals := 0 } : Room).cells ({ frames := 0, cells := 0, slots := 0, locals := 0 } : Room).slots) := by
  refine MetFree.of_bodySF (plainFor_of_name pn_java_lang_Integer) hisR ?_
  intro p e s m args below meth c s₁ Bd hml0 hP hK
  obtain ⟨rfl, hZ, hh⟩ := hP
  have hx := Bd.exec
  have hby := Bd.bytes
  have hlk : meth.locks = false := BodyLoose.notSynchronized Bd
  have hml : c.maxLocals = 2 := hml0
  have hown : s.vm.findClass "java/lang/Integer" = some m.cls := findClass_of_methodNamed Bd.named
  have hnm := (name_of_methodNamed Bd.named Bd.method).1
  have X0 : Stand p l e ({ frames := 0, cells := 0, slots := 0, locals := 0 } : Room) s m #[(.int 1)] below meth c s₁ [] 0 0 := Stand.of_body Bd
  have e0 : s₁.heap = h0 := by rw [← hh, Bd.state]; rfl
  have N0 := Fr.nil n0
  show own_G p.tables e below s (QQ_rm11_2 Z  h0 n0) ({ frames := 0, cells := 0, slots := 0, locals := 0 } : Room).cells ({ frames := 0, cells := 0, slots := 0, locals := 0 } : Room).slots (s₁.setTop (entryFrame m #[(.int 1)] 2))
  refine oS (B := s₁.setTop (mkF m 0 #[iv 1, .unset] [])) (fun t k => castTop (ef_rm11_2 m (1 : Int32)) k) ?_
  refine oS (B := s₁.setTop (mkF m 1 #[iv 1, .unset] [(.int 1)])) (fun t k => XS.iloadN X0.here hx rfl (hb hby d11_0) rfl k) ?_
  refine oS (B := s₁.setTop (mkF m 15 #[iv 1, .unset] [])) (fun t k => XS.ifYes X0.here hx rfl (pc0 := 1) (pc' := 15) rfl (hb hby d11_1) rfl ((if0 _ _).trans (tlt (by decide)).2.2.1) (by decide) (by decide) k) ?_
  refine oS (B := s₁.setTop (mkF m 17 #[iv 1, .unset] [(.int 31)])) (fun t k => XS.bipush X0.here hx rfl (hb hby d11_15) k) ?_
  refine oS (B := s₁.setTop (mkF m 18 #[iv 1, iv 31] [])) (fun t k => XS.istoreN X0.here hx rfl (hb hby d11_17) rfl (l' := #[iv 1, iv 31]) rfl k) ?_
  refine oS (B := s₁.setTop (mkF m 19 #[iv 1, iv 31] [(.int 1)])) (fun t k => XS.iloadN X0.here hx rfl (hb hby d11_18) rfl k) ?_
  refine oS (B := s₁.setTop (mkF m 22 #[iv 1, iv 31] [(.int 65536), (.int 1)])) (fun t k => X0.ldcWInt hx hown (mvT hZ (ow hw 70 rfl)) (g := (mkF m 19 #[iv 1, iv 31] [(.int 1)])) rfl (hb hby d11_19) t k) ?_
  refine oS (B := s₁.setTop (mkF m 33 #[iv 1, iv 31] [])) (fun t k => XS.icmpYes X0.here hx rfl (pc0 := 22) (pc' := 33) rfl (hb hby d11_22) rfl (tlt (by decide)).1 (by decide) (by decide) k) ?_
  refine oS (B := s₁.setTop (mkF m 34 #[iv 1, iv 31] [(.int 1)])) (fun t k => XS.iloadN X0.here hx rfl (hb hby d11_33) rfl k) ?_
  refine oS (B := s₁.setTop (mkF m 37 #[iv 1, iv 31] [(.int 256), (.int 1)])) (fun t k => XS.sipush X0.here hx rfl (hb hby d11_34) k) ?_
  refine oS (B := s₁.setTop (mkF m 48 #[iv 1, iv 31] [])) (fun t k => XS.icmpYes X0.here hx rfl (pc0 := 37) (pc' := 48) rfl (hb hby d11_37) rfl (tlt (by decide)).1 (by decide) (by decide) k) ?_
  refine oS (B := s₁.setTop (mkF m 49 #[iv 1, iv 31] [(.int 1)])) (fun t k => XS.iloadN X0.here hx rfl (hb hby d11_48) rfl k) ?_
  refine oS (B := s₁.setTop (mkF m 51 #[iv 1, iv 31] [(.int 16), (.int 1)])) (fun t k => XS.bipush X0.here hx rfl (hb hby d11_49) k) ?_
  refine oS (B := s₁.setTop (mkF m 61 #[iv 1, iv 31] [])) (fun t k => XS.icmpYes X0.here hx rfl (pc0 := 51) (pc' := 61) rfl (hb hby d11_51) rfl (tlt (by decide)).1 (by decide) (by decide) k) ?_
  refine oS (B := s₁.setTop (mkF m 62 #[iv 1, iv 31] [(.int 1)])) (fun t k => XS.iloadN X0.here hx rfl (hb hby d11_61) rfl k) ?_
  refine oS (B := s₁.setTop (mkF m 63 #[iv 1, iv 31] [(.int 4), (.int 1)])) (fun t k => XS.iconst X0.here hx rfl (hb hby d11_62) k) ?_
  refine oS (B := s₁.setTop (mkF m 73 #[iv 1, iv 31] [])) (fun t k => XS.icmpYes X0.here hx rfl (pc0 := 63) (pc' := 73) rfl (hb hby d11_63) rfl (tlt (by decide)).1 (by decide) (by decide) k) ?_
  refine oS (B := s₁.setTop (mkF m 74 #[iv 1, iv 31] [(.int 31)])) (fun t k => XS.iloadN X0.here hx rfl (hb hby d11_73) rfl k) ?_
  refine oS (B := s₁.setTop (mkF m 75 #[iv 1, iv 31] [(.int 1), (.int 31)])) (fun t k => XS.iloadN X0.here hx rfl (hb hby d11_74) rfl k) ?_
  refine oS (B := s₁.setTop (mkF m 76 #[iv 1, iv 31] [(.int 1), (.int 1), (.int 31)])) (fun t k => XS.iconst X0.here hx rfl (hb hby d11_75) k) ?_
  refine oS (B := s₁.setTop (mkF m 77 #[iv 1, iv 31] [(.int 0), (.int 31)])) (fun t k => XS.iushr X0.here hx rfl (hb hby d11_76) rfl k) ?_
  refine oS (B := s₁.setTop (mkF m 78 #[iv 1, iv 31] [(.int 31)])) (fun t k => XS.isub X0.here hx rfl (hb hby d11_77) rfl k) ?_
  exact own_retI X0 hx hlk Bd.returns (hb hby d11_78) (by decide) (by decide) (by exact ⟨rfl, N0, e0⟩)
theorem d10_0 : decode jdk_33_method_45_code 0 = .ok (.iload_n 0, 1) := by decide +kernel
theorem d10_1 : decode jdk_33_method_45_code 1 = .ok (.ldc 127, 2) := by decide +kernel
theorem d10_3 : decode jdk_33_method_45_code 3 = .ok (.iload_n 0, 1) := by decide +kernel
theorem d10_4 : decode jdk_33_method_45_code 4 = .ok (.invokestatic 51, 3) := by decide +kernel
theorem d10_7 : decode jdk_33_method_45_code 7 = .ok (.iushr, 1) := by decide +kernel
theorem d10_8 : decode jdk_33_method_45_code 8 = .ok (.iand, 1) := by decide +kernel
theorem d10_9 : decode jdk_33_method_45_code 9 = .ok (.ireturn, 1) := by decide +kernel
theorem ef_rm10_2 (m : MethodId) (x0 : Int32) : entryFrame m #[(.int x0)] 1 = mkF m 0 #[iv x0] [] := by first | (simp [entryFrame, mkF, argsToLocals, Value.category]; done) | rfl
def QQ_rm10_2 (Z : State)   (h0 : Heap) (n0 : Nat) (v : Option Value) (h : Heap) (L : List Loc) : Prop := v = some (.int 1) ∧ Fr n0 L ∧ h = h0
set_option maxRecDepth 65536 in
set_option maxHeartbeats 40000000 in
theorem rm10_2 (l : Launch) (Z : State) (a0 : Array Value) (hw : ∀ d ∈ tables_1, d.before a0 Z = true) (ws : List Jvm.Cond)   (h0 : Heap) (n0 : Nat) (Z0 : n0 ≤ h0.size)  :
    MetFree l (⟨"java/lang/Integer", "highestOneBit", "(I)I"⟩ : MethodName) (head1 (Jvm.Cond.code (⟨"java/lang/Integer", "highestOneBit", "(I)I"⟩ : MethodName) jdk_33_method_45_code 1 (some .int) :: ws) ({ frames := 1, cells := 0, slots := 0, locals := 15 } : Room)) (fun a U => a = #[(.int 1)] ∧ Z.Warmed39 U.vm ∧ U.heap = h0) (fun _ _ _ _ _ => True) (fun _ U o U' => ∃ v L, o = .returned v ∧ (QQ_rm10_2 Z  h0 n0) v U'.heap L ∧ FrameEnd U o U' L ({ frames := 1, cells := 0, slots := 0, locals := 15 } : Room).cells ({ frames := 1, cells := 0, slots := 0, locals := 15 } : Room).slots) := by
  refine MetFree.of_bodySF (plainFor_of_name pn_java_lang_Integer) hisR ?_
  intro p e s m args below meth c s₁ Bd hml0 hP hK
  obtain ⟨rfl, hZ, hh⟩ := hP
  have hx := Bd.exec
  have hby := Bd.bytes
  have hlk : meth.locks = false := BodyLoose.notSynchronized Bd
  have hml : c.maxLocals = 1 := hml0
  have hown : s.vm.findClass "java/lang/Integer" = some m.cls := findClass_of_methodNamed Bd.named
  have hnm := (name_of_methodNamed Bd.named Bd.method).1
  have X0 : Stand p l e ({ frames := 1, cells := 0, slots := 0, locals := 15 } : Room) s m #[(.int 1)] below meth c s₁ [] 0 0 := Stand.of_body Bd
  have e0 : s₁.heap = h0 := by rw [← hh, Bd.state]; rfl
  have N0 := Fr.nil n0
  show own_G p.tables e below s (QQ_rm10_2 Z  h0 n0) ({ frames := 1, cells := 0, slots := 0, locals := 15 } : Room).cells ({ frames := 1, cells := 0, slots := 0, locals := 15 } : Room).slots (s₁.setTop (entryFrame m #[(.int 1)] 1))
  refine oS (B := s₁.setTop (mkF m 0 #[iv 1] [])) (fun t k => castTop (ef_rm10_2 m (1 : Int32)) k) ?_
  refine oS (B := s₁.setTop (mkF m 1 #[iv 1] [(.int 1)])) (fun t k => XS.iloadN X0.here hx rfl (hb hby d10_0) rfl k) ?_
  refine oS (B := s₁.setTop (mkF m 3 #[iv 1] [(.int (-2147483648 : Int32)), (.int 1)])) (fun t k => X0.ldcInt hx hown (mvT hZ (ow hw 66 rfl)) (g := (mkF m 1 #[iv 1] [(.int 1)])) rfl (hb hby d10_1) t k) ?_
  refine oS (B := s₁.setTop (mkF m 4 #[iv 1] [(.int 1), (.int (-2147483648 : Int32)), (.int 1)])) (fun t k => XS.iloadN X0.here hx rfl (hb hby d10_3) rfl k) ?_
  obtain ⟨_, _, ⟨T1, L1, k1, n1⟩, -, X1, ⟨Lc1, hQ1, l1, y1, z1⟩, st1⟩ := Jvm.LawKit.callS X0 hx (y := (⟨"java/lang/Integer", "numberOfLeadingZeros", "(I)I"⟩ : MethodName)) hown (mvT hZ (ow hw 67 rfl)) (mvT hZ (ow hw 68 rfl)) (mvT hZ (ow hw 64 rfl)) (mvT hZ (ow hw 69 rfl)) (by decide) (backOf (W := 2) (rm11_2 l Z a0 hw []   h0 n0 Z0 ) hZ (ow hw 69 rfl) (ow hw 64 rfl) (by decide) (by decide)) (g := (mkF m 4 #[iv 1] [(.int 1), (.int (-2147483648 : Int32)), (.int 1)])) rfl (by rw [hml]; rfl) (argsL := [(.int 1)]) (rest := [(.int (-2147483648 : Int32)), (.int 1)]) (lenOf pd_0 rfl) rfl (by show 2 * 0 + _ ≤ _; exact Nat.le_of_eq rfl) (hb hby d10_4) (fun _ _ => ⟨rfl, e0, (by decide : 0 + 0 ≤ _), (by decide : 0 + 0 ≤ _)⟩)
  dsimp only [Pt.U, Pt.locs, Pt.cells, Pt.slots] at X1 l1 y1 z1 st1 hQ1
  subst l1 y1 z1
  obtain ⟨rfl, N1q, e1⟩ := hQ1
  have N0 := Fr.app N0 N1q
  refine oS (B := T1.setTop (mkF m 7 #[iv 1] [(.int 31), (.int (-2147483648 : Int32)), (.int 1)])) (fun t k => st1 t k) ?_
  refine oS (B := T1.setTop (mkF m 8 #[iv 1] [(.int 1), (.int 1)])) (fun t k => XS.iushr X1.here hx rfl (hb hby d10_7) rfl k) ?_
  refine oS (B := T1.setTop (mkF m 9 #[iv 1] [(.int 1)])) (fun t k => XS.iand X1.here hx rfl (hb hby d10_8) rfl k) ?_
  exact own_retI X1 hx hlk Bd.returns (hb hby d10_9) (by decide) (by decide) (by exact ⟨rfl, N0, e1⟩)
theorem d9_9 : decode prog_102_method_7_code 9 = .ok (.iload_n 0, 1) := by decide +kernel
theorem d9_10 : decode prog_102_method_7_code 10 = .ok (.iconst 1, 1) := by decide +kernel
theorem d9_11 : decode prog_102_method_7_code 11 = .ok (.isub, 1) := by decide +kernel
theorem d9_12 : decode prog_102_method_7_code 12 = .ok (.invokestatic 76, 3) := by decide +kernel
theorem d9_15 : decode prog_102_method_7_code 15 = .ok (.iconst 1, 1) := by decide +kernel
theorem d9_16 : decode prog_102_method_7_code 16 = .ok (.ishl, 1) := by decide +kernel
theorem ef_rm9_2 (m : MethodId) (x0 : Int32) : entryFrame m #[(.int x0)] 1 = mkF m 0 #[iv x0] [] := by first | (simp [entryFrame, mkF, argsToLocals, Value.category]; done) | rfl
def QQ_rm9_2 (Z : State)   (h0 : Heap) (n0 : Nat) (v : Option Value) (h : Heap) (L : List Loc) : Prop := v = some (.int 2) ∧ Fr n0 L ∧ h = h0
set_option maxRecDepth 65536 in
set_option maxHeartbeats 40000000 in
theorem rm9_2 (l : Launch) (Z : State) (a0 : Array Value) (hw : ∀ d ∈ tables_1, d.before a0 Z = true) (ws : List Jvm.Cond)   (h0 : Heap) (n0 : Nat) (Z0 : n0 ≤ h0.size)  :
    MetFree l (⟨"com/example/loomwire/loomwire/transport/MessageBuffer", "chunkCapacity", "(I)I"⟩ : MethodName) (head1 (Jvm.Cond.code (⟨"com/example/loomwire/loomwire/transport/MessageBuffer", "chunkCapacity", "(I)I"⟩ : MethodName) prog_102_method_7_code 1 (some .int) :: ws) ({ frames := 2, cells := 0, slots := 0, locals := 27 } : Room)) (fun a U => a = #[(.int 2)] ∧ Z.Warmed39 U.vm ∧ U.heap = h0) (fun _ _ _ _ _ => True) (fun _ U o U' => ∃ v L, o = .returned v ∧ (QQ_rm9_2 Z  h0 n0) v U'.heap L ∧ FrameEnd U o U' L ({ frames := 2, cells := 0, slots := 0, locals := 27 } : Room).cells ({ frames := 2, cells := 0, slots := 0, locals := 27 } : Room).slots) := by
  refine MetFree.of_bodySF (plainFor_of_name pn_com_example_loomwire_loomwire_transport_MessageBuffer) hisR ?_
  intro p e s m args below meth c s₁ Bd hml0 hP hK
  obtain ⟨rfl, hZ, hh⟩ := hP
  have hx := Bd.exec
  have hby := Bd.bytes
  have hlk : meth.locks = false := BodyLoose.notSynchronized Bd
  have hml : c.maxLocals = 1 := hml0
  have hown : s.vm.findClass "com/example/loomwire/loomwire/transport/MessageBuffer" = some m.cls := findClass_of_methodNamed Bd.named
  have hnm := (name_of_methodNamed Bd.named Bd.method).1
  have X0 : Stand p l e ({ frames := 2, cells := 0, slots := 0, locals := 27 } : Room) s m #[(.int 2)] below meth c s₁ [] 0 0 := Stand.of_body Bd
  have e0 : s₁.heap = h0 := by rw [← hh, Bd.state]; rfl
  have N0 := Fr.nil n0
  show own_G p.tables e below s (QQ_rm9_2 Z  h0 n0) ({ frames := 2, cells := 0, slots := 0, locals := 27 } : Room).cells ({ frames := 2, cells := 0, slots := 0, locals := 27 } : Room).slots (s₁.setTop (entryFrame m #[(.int 2)] 1))
  refine oS (B := s₁.setTop (mkF m 0 #[iv 2] [])) (fun t k => castTop (ef_rm9_2 m (2 : Int32)) k) ?_
  refine oS (B := s₁.setTop (mkF m 1 #[iv 2] [(.int 2)])) (fun t k => XS.iloadN X0.here hx rfl (hb hby d9_0) rfl k) ?_
  refine oS (B := s₁.setTop (mkF m 2 #[iv 2] [(.int 1), (.int 2)])) (fun t k => XS.iconst X0.here hx rfl (hb hby d9_1) k) ?_
  refine oS (B := s₁.setTop (mkF m 9 #[iv 2] [])) (fun t k => XS.icmpYes X0.here hx rfl (pc0 := 2) (pc' := 9) rfl (hb hby d9_2) rfl (tlt (by decide)).2.2.1 (by decide) (by decide) k) ?_
  refine oS (B := s₁.setTop (mkF m 10 #[iv 2] [(.int 2)])) (fun t k => XS.iloadN X0.here hx rfl (hb hby d9_9) rfl k) ?_
  refine oS (B := s₁.setTop (mkF m 11 #[iv 2] [(.int 1), (.int 2)])) (fun t k => XS.iconst X0.here hx rfl (hb hby d9_10) k) ?_
  refine oS (B := s₁.setTop (mkF m 12 #[iv 2] [(.int 1)])) (fun t k => XS.isub X0.here hx rfl (hb hby d9_11) rfl k) ?_
  obtain ⟨_, _, ⟨T1, L1, k1, n1⟩, -, X1, ⟨Lc1, hQ1, l1, y1, z1⟩, st1⟩ := Jvm.LawKit.callS X0 hx (y := (⟨"java/lang/Integer", "highestOneBit", "(I)I"⟩ : MethodName)) hown (mvT hZ (ow hw 62 rfl)) (mvT hZ (ow hw 63 rfl)) (mvT hZ (ow hw 64 rfl)) (mvT hZ (ow hw 65 rfl)) (by decide) (backOf (W := 0) (rm10_2 l Z a0 hw []   h0 n0 Z0 ) hZ (ow hw 65 rfl) (ow hw 64 rfl) (by decide) (by decide)) (g := (mkF m 12 #[iv 2] [(.int 1)])) rfl (by rw [hml]; rfl) (argsL := [(.int 1)]) (rest := []) (lenOf pd_0 rfl) rfl (by show 2 * 0 + _ ≤ _; exact Nat.le_of_eq rfl) (hb hby d9_12) (fun _ _ => ⟨rfl, e0, (by decide : 0 + 0 ≤ _), (by decide : 0 + 0 ≤ _)⟩)
  dsimp only [Pt.U, Pt.locs, Pt.cells, Pt.slots] at X1 l1 y1 z1 st1 hQ1
  subst l1 y1 z1
  obtain ⟨rfl, N1q, e1⟩ := hQ1
  have N0 := Fr.app N0 N1q
  refine oS (B := T1.setTop (mkF m 15 #[iv 2] [(.int 1)])) (fun t k => st1 t k) ?_
  refine oS (B := T1.setTop (mkF m 16 #[iv 2] [(.int 1), (.int 1)])) (fun t k => XS.iconst X1.here hx rfl (hb hby d9_15) k) ?_
  refine oS (B := T1.setTop (mkF m 17 #[iv 2] [(.int 2)])) (fun t k => XS.ishl X1.here hx rfl (hb hby d9_16) rfl k) ?_
  exact own_retI X1 hx hlk Bd.returns (hb hby d9_17) (by decide) (by decide) (by exact ⟨rfl, N0, e1⟩)
theorem ef_rm11_3 (m : MethodId) (x0 : Int32) : entryFrame m #[(.int x0)] 2 = mkF m 0 #[iv x0, .unset] [] := by first | (simp [entryFrame, mkF, argsToLocals, Value.category]; done) | rfl
def QQ_rm11_3 (Z : State)   (h0 : Heap) (n0 : Nat) (v : Option Value) (h : Heap) (L : List Loc) : Prop := v = some (.int 30) ∧ Fr n0 L ∧ h = h0
set_option maxRecDepth 65536 in
set_option maxHeartbeats 40000000 in
theorem rm11_3 (l : Launch) (Z : State) (a0 : Array Value) (hw : ∀ d ∈ tables_1, d.before a0 Z = true) (ws : List Jvm.Cond)   (h0 : Heap) (n0 : Nat) (Z0 : n0 ≤ h0.size)  :
    MetFree l (⟨"java/lang/Integer", "numberOfLeadingZeros", "(I)I"⟩ : MethodName) (head1 (Jvm.Cond.code (⟨"java/lang/Integer", "numberOfLeadingZeros", "(I)I"⟩ : MethodName) jdk_33_method_47_code 2 (some .int) :: ws) ({ frames := 0, cells := 0, slots := 0, locals := 0 } : Room)) (fun a U => a = #[(.int 2)] ∧ Z.Warmed39 U.vm ∧ U.heap = h0) (fun _ _ _ _ _ => True) (fun _ U o U' => ∃ v L, o = .returned v ∧ (QQ_rm11_3 Z  h0 n0) v U'.heap L ∧ FrameEnd U o U' L ({ frames := 0, cells := 0, slots := 0, locals := 0 } : Room).cells ({ frames := 0, cells := 0, slots := 0, locals := 0 } : Room).slots) := by
  refine MetFree.of_bodySF (plainFor_of_name pn_java_lang_Integer) hisR ?_
  intro p e s m args below meth c s₁ Bd hml0 hP hK
  obtain ⟨rfl, hZ, hh⟩ := hP
  have hx := Bd.exec
  have hby := Bd.bytes
  have hlk : meth.locks = false := BodyLoose.notSynchronized Bd
  have hml : c.maxLocals = 2 := hml0
  have hown : s.vm.findClass "java/lang/Integer" = some m.cls := findClass_of_methodNamed Bd.named
  have hnm := (name_of_methodNamed Bd.named Bd.method).1
  have X0 : Stand p l e ({ frames := 0, cells := 0, slots := 0, locals := 0 } : Room) s m #[(.int 2)] below meth c s₁ [] 0 0 := Stand.of_body Bd
  have e0 : s₁.heap = h0 := by rw [← hh, Bd.state]; rfl
  have N0 := Fr.nil n0
  show own_G p.tables e below s (QQ_rm11_3 Z  h0 n0) ({ frames := 0, cells := 0, slots := 0, locals := 0 } : Room).cells ({ frames := 0, cells := 0, slots := 0, locals := 0 } : Room).slots (s₁.setTop (entryFrame m #[(.int 2)] 2))
  refine oS (B := s₁.setTop (mkF m 0 #[iv 2, .unset] [])) (fun t k => castTop (ef_rm11_3 m (2 : Int32)) k) ?_
  refine oS (B := s₁.setTop (mkF m 1 #[iv 2, .unset] [(.int 2)])) (fun t k => XS.iloadN X0.here hx rfl (hb hby d11_0) rfl k) ?_
  refine oS (B := s₁.setTop (mkF m 15 #[iv 2, .unset] [])) (fun t k => XS.ifYes X0.here hx rfl (pc0 := 1) (pc' := 15) rfl (hb hby d11_1) rfl ((if0 _ _).trans (tlt (by decide)).2.2.1) (by decide) (by decide) k) ?_
  refine oS (B := s₁.setTop (mkF m 17 #[iv 2, .unset] [(.int 31)])) (fun t k => XS.bipush X0.here hx rfl (hb hby d11_15) k) ?_
  refine oS (B := s₁.setTop (mkF m 18 #[iv 2, iv 31] [])) (fun t k => XS.istoreN X0.here hx rfl (hb hby d11_17) rfl (l' := #[iv 2, iv 31]) rfl k) ?_
  refine oS (B := s₁.setTop (mkF m 19 #[iv 2, iv 31] [(.int 2)])) (fun t k => XS.iloadN X0.here hx rfl (hb hby d11_18) rfl k) ?_
  refine oS (B := s₁.setTop (mkF m 22 #[iv 2, iv 31] [(.int 65536), (.int 2)])) (fun t k => X0.ldcWInt hx hown (mvT hZ (ow hw 70 rfl)) (g := (mkF m 19 #[iv 2, iv 31] [(.int 2)])) rfl (hb hby d11_19) t k) ?_
  refine oS (B := s₁.setTop (mkF m 33 #[iv 2, iv 31] [])) (fun t k => XS.icmpYes X0.here hx rfl (pc0 := 22) (pc' := 33) rfl (hb hby d11_22) rfl (tlt (by decide)).1 (by decide) (by decide) k) ?_
  refine oS (B := s₁.setTop (mkF m 34 #[iv 2, iv 31] [(.int 2)])) (fun t k => XS.iloadN X0.here hx rfl (hb hby d11_33) rfl k) ?_
  refine oS (B := s₁.setTop (mkF m 37 #[iv 2, iv 31] [(.int 256), (.int 2)])) (fun t k => XS.sipush X0.here hx rfl (hb hby d11_34) k) ?_
  refine oS (B := s₁.setTop (mkF m 48 #[iv 2, iv 31] [])) (fun t k => XS.icmpYes X0.here hx rfl (pc0 := 37) (pc' := 48) rfl (hb hby d11_37) rfl (tlt (by decide)).1 (by decide) (by decide) k) ?_
  refine oS (B := s₁.setTop (mkF m 49 #[iv 2, iv 31] [(.int 2)])) (fun t k => XS.iloadN X0.here hx rfl (hb hby d11_48) rfl k) ?_
  refine oS (B := s₁.setTop (mkF m 51 #[iv 2, iv 31] [(.int 16), (.int 2)])) (fun t k => XS.bipush X0.here hx rfl (hb hby d11_49) k) ?_
  refine oS (B := s₁.setTop (mkF m 61 #[iv 2, iv 31] [])) (fun t k => XS.icmpYes X0.here hx rfl (pc0 := 51) (pc' := 61) rfl (hb hby d11_51) rfl (tlt (by decide)).1 (by decide) (by decide) k) ?_
  refine oS (B := s₁.setTop (mkF m 62 #[iv 2, iv 31] [(.int 2)])) (fun t k => XS.iloadN X0.here hx rfl (hb hby d11_61) rfl k) ?_
  refine oS (B := s₁.setTop (mkF m 63 #[iv 2, iv 31] [(.int 4), (.int 2)])) (fun t k => XS.iconst X0.here hx rfl (hb hby d11_62) k) ?_
  refine oS (B := s₁.setTop (mkF m 73 #[iv 2, iv 31] [])) (fun t k => XS.icmpYes X0.here hx rfl (pc0 := 63) (pc' := 73) rfl (hb hby d11_63) rfl (tlt (by decide)).1 (by decide) (by decide) k) ?_
  refine oS (B := s₁.setTop (mkF m 74 #[iv 2, iv 31] [(.int 31)])) (fun t k => XS.iloadN X0.here hx rfl (hb hby d11_73) rfl k) ?_
  refine oS (B := s₁.setTop (mkF m 75 #[iv 2, iv 31] [(.int 2), (.int 31)])) (fun t k => XS.iloadN X0.here hx rfl (hb hby d11_74) rfl k) ?_
  refine oS (B := s₁.setTop (mkF m 76 #[iv 2, iv 31] [(.int 1), (.int 2), (.int 31)])) (fun t k => XS.iconst X0.here hx rfl (hb hby d11_75) k) ?_
  refine oS (B := s₁.setTop (mkF m 77 #[iv 2, iv 31] [(.int 1), (.int 31)])) (fun t k => XS.iushr X0.here hx rfl (hb hby d11_76) rfl k) ?_
  refine oS (B := s₁.setTop (mkF m 78 #[iv 2, iv 31] [(.int 30)])) (fun t k => XS.isub X0.here hx rfl (hb hby d11_77) rfl k) ?_
  exact own_retI X0 hx hlk Bd.returns (hb hby d11_78) (by decide) (by decide) (by exact ⟨rfl, N0, e0⟩)
theorem ef_rm10_3 (m : MethodId) (x0 : Int32) : entryFrame m #[(.int x0)] 1 = mkF m 0 #[iv x0] [] := by first | (simp [entryFrame, mkF, argsToLocals, Value.category]; done) | rfl
def QQ_rm10_3 (Z : State)   (h0 : Heap) (n0 : Nat) (v : Option Value) (h : Heap) (L : List Loc) : Prop := v = some (.int 2) ∧ Fr n0 L ∧ h = h0
set_option maxRecDepth 65536 in
set_option maxHeartbeats 40000000 in
theorem rm10_3 (l : Launch) (Z : State) (a0 : Array Value) (hw : ∀ d ∈ tables_1, d.before a0 Z = true) (ws : List Jvm.Cond)   (h0 : Heap) (n0 : Nat) (Z0 : n0 ≤ h0.size)  :
    MetFree l (⟨"java/lang/Integer", "highestOneBit", "(I)I"⟩ : MethodName) (head1 (Jvm.Cond.code (⟨"java/lang/Integer", "highestOneBit", "(I)I"⟩ : MethodName) jdk_33_method_45_code 1 (some .int) :: ws) ({ frames := 1, cells := 0, slots := 0, locals := 15 } : Room)) (fun a U => a = #[(.int 2)] ∧ Z.Warmed39 U.vm ∧ U.heap = h0) (fun _ _ _ _ _ => True) (fun _ U o U' => ∃ v L, o = .returned v ∧ (QQ_rm10_3 Z  h0 n0) v U'.heap L ∧ FrameEnd U o U' L ({ frames := 1, cells := 0, slots := 0, locals := 15 } : Room).cells ({ frames := 1, cells := 0, slots := 0, locals := 15 } : Room).slots) := by
  refine MetFree.of_bodySF (plainFor_of_name pn_java_lang_Integer) hisR ?_
  intro p e s m args below meth c s₁ Bd hml0 hP hK
  obtain ⟨rfl, hZ, hh⟩ := hP
  have hx := Bd.exec
  have hby := Bd.bytes
  have hlk : meth.locks = false := BodyLoose.notSynchronized Bd
  have hml : c.maxLocals = 1 := hml0
  have hown : s.vm.findClass "java/lang/Integer" = some m.cls := findClass_of_methodNamed Bd.named
  have hnm := (name_of_methodNamed Bd.named Bd.method).1
  have X0 : Stand p l e ({ frames := 1, cells := 0, slots := 0, locals := 15 } : Room) s m #[(.int 2)] below meth c s₁ [] 0 0 := Stand.of_body Bd
  have e0 : s₁.heap = h0 := by rw [← hh, Bd.state]; rfl
  have N0 := Fr.nil n0
  show own_G p.tables e below s (QQ_rm10_3 Z  h0 n0) ({ frames := 1, cells := 0, slots := 0, locals := 15 } : Room).cells ({ frames := 1, cells := 0, slots := 0, locals := 15 } : Room).slots (s₁.setTop (entryFrame m #[(.int 2)] 1))
  refine oS (B := s₁.setTop (mkF m 0 #[iv 2] [])) (fun t k => castTop (ef_rm10_3 m (2 : Int32)) k) ?_
  refine oS (B := s₁.setTop (mkF m 1 #[iv 2] [(.int 2)])) (fun t k => XS.iloadN X0.here hx rfl (hb hby d10_0) rfl k) ?_
  refine oS (B := s₁.setTop (mkF m 3 #[iv 2] [(.int (-2147483648 : Int32)), (.int 2)])) (fun t k => X0.ldcInt hx hown (mvT hZ (ow hw 66 rfl)) (g := (mkF m 1 #[iv 2] [(.int 2)])) rfl (hb hby d10_1) t k) ?_
  refine oS (B := s₁.setTop (mkF m 4 #[iv 2] [(.int 2), (.int (-2147483648 : Int32)), (.int 2)])) (fun t k => XS.iloadN X0.here hx rfl (hb hby d10_3) rfl k) ?_
  obtain ⟨_, _, ⟨T1, L1, k1, n1⟩, -, X1, ⟨Lc1, hQ1, l1, y1, z1⟩, st1⟩ := Jvm.LawKit.callS X0 hx (y := (⟨"java/lang/Integer", "numberOfLeadingZeros", "(I)I"⟩ : MethodName)) hown (mvT hZ (ow hw 67 rfl)) (mvT hZ (ow hw 68 rfl)) (mvT hZ (ow hw 64 rfl)) (mvT hZ (ow hw 69 rfl)) (by decide) (backOf (W := 2) (rm11_3 l Z a0 hw []   h0 n0 Z0 ) hZ (ow hw 69 rfl) (ow hw 64 rfl) (by decide) (by decide)) (g := (mkF m 4 #[iv 2] [(.int 2), (.int (-2147483648 : Int32)), (.int 2)])) rfl (by rw [hml]; rfl) (argsL := [(.int 2)]) (rest := [(.int (-2147483648 : Int32)), (.int 2)]) (lenOf pd_0 rfl) rfl (by show 2 * 0 + _ ≤ _; exact Nat.le_of_eq rfl) (hb hby d10_4) (fun _ _ => ⟨rfl, e0, (by decide : 0 + 0 ≤ _), (by decide : 0 + 0 ≤ _)⟩)
  dsimp only [Pt.U, Pt.locs, Pt.cells, Pt.slots] at X1 l1 y1 z1 st1 hQ1
  subst l1 y1 z1
  obtain ⟨rfl, N1q, e1⟩ := hQ1
  have N0 := Fr.app N0 N1q
  refine oS (B := T1.setTop (mkF m 7 #[iv 2] [(.int 30), (.int (-2147483648 : Int32)), (.int 2)])) (fun t k => st1 t k) ?_
  refine oS (B := T1.setTop (mkF m 8 #[iv 2] [(.int 2), (.int 2)])) (fun t k => XS.iushr X1.here hx rfl (hb hby d10_7) rfl k) ?_
  refine oS (B := T1.setTop (mkF m 9 #[iv 2] [(.int 2)])) (fun t k => XS.iand X1.here hx rfl (hb hby d10_8) rfl k) ?_
  exact own_retI X1 hx hlk Bd.returns (hb hby d10_9) (by decide) (by decide) (by exact ⟨rfl, N0, e1⟩)
theorem ef_rm9_3 (m : MethodId) (x0 : Int32) : entryFrame m #[(.int x0)] 1 = mkF m 0 #[iv x0] [] := by first | (simp [entryFrame, mkF, argsToLocals, Value.category]; done) | rfl
def QQ_rm9_3 (Z : State)   (h0 : Heap) (n0 : Nat) (v : Option Value) (h : Heap) (L : List Loc) : Prop := v = some (.int 4) ∧ Fr n0 L ∧ h = h0
set_option maxRecDepth 65536 in
set_option maxHeartbeats 40000000 in
theorem rm9_3 (l : Launch) (Z : State) (a0 : Array Value) (hw : ∀ d ∈ tables_1, d.before a0 Z = true) (ws : List Jvm.Cond)   (h0 : Heap) (n0 : Nat) (Z0 : n0 ≤ h0.size)  :
    MetFree l (⟨"com/example/loomwire/loomwire/transport/MessageBuffer", "chunkCapacity", "(I)I"⟩ : MethodName) (head1 (Jvm.Cond.code (⟨"com/example/loomwire/loomwire/transport/MessageBuffer", "chunkCapacity", "(I)I"⟩ : MethodName) prog_102_method_7_code 1 (some .int) :: ws) ({ frames := 2, cells := 0, slots := 0, locals := 27 } : Room)) (fun a U => a = #[(.int 3)] ∧ Z.Warmed39 U.vm ∧ U.heap = h0) (fun _ _ _ _ _ => True) (fun _ U o U' => ∃ v L, o = .returned v ∧ (QQ_rm9_3 Z  h0 n0) v U'.heap L ∧ FrameEnd U o U' L ({ frames := 2, cells := 0, slots := 0, locals := 27 } : Room).cells ({ frames := 2, cells := 0, slots := 0, locals := 27 } : Room).slots) := by
  refine MetFree.of_bodySF (plainFor_of_name pn_com_example_loomwire_loomwire_transport_MessageBuffer) hisR ?_
  intro p e s m args below meth c s₁ Bd hml0 hP hK
  obtain ⟨rfl, hZ, hh⟩ := hP
  have hx := Bd.exec
  have hby := Bd.bytes
  have hlk : meth.locks = false := BodyLoose.notSynchronized Bd
  have hml : c.maxLocals = 1 := hml0
  have hown : s.vm.findClass "com/example/loomwire/loomwire/transport/MessageBuffer" = some m.cls := findClass_of_methodNamed Bd.named
  have hnm := (name_of_methodNamed Bd.named Bd.method).1
  have X0 : Stand p l e ({ frames := 2, cells := 0, slots := 0, locals := 27 } : Room) s m #[(.int 3)] below meth c s₁ [] 0 0 := Stand.of_body Bd
  have e0 : s₁.heap = h0 := by rw [← hh, Bd.state]; rfl
  have N0 := Fr.nil n0
  show own_G p.tables e below s (QQ_rm9_3 Z  h0 n0) ({ frames := 2, cells := 0, slots := 0, locals := 27 } : Room).cells ({ frames := 2, cells := 0, slots := 0, locals := 27 } : Room).slots (s₁.setTop (entryFrame m #[(.int 3)] 1))
  refine oS (B := s₁.setTop (mkF m 0 #[iv 3] [])) (fun t k => castTop (ef_rm9_3 m (3 : Int32)) k) ?_
  refine oS (B := s₁.setTop (mkF m 1 #[iv 3] [(.int 3)])) (fun t k => XS.iloadN X0.here hx rfl (hb hby d9_0) rfl k) ?_
  refine oS (B := s₁.setTop (mkF m 2 #[iv 3] [(.int 1), (.int 3)])) (fun t k => XS.iconst X0.here hx rfl (hb hby d9_1) k) ?_
  refine oS (B := s₁.setTop (mkF m 9 #[iv 3] [])) (fun t k => XS.icmpYes X0.here hx rfl (pc0 := 2) (pc' := 9) rfl (hb hby d9_2) rfl (tlt (by decide)).2.2.1 (by decide) (by decide) k) ?_
  refine oS (B := s₁.setTop (mkF m 10 #[iv 3] [(.int 3)])) (fun t k => XS.iloadN X0.here hx rfl (hb hby d9_9) rfl k) ?_
  refine oS (B := s₁.setTop (mkF m 11 #[iv 3] [(.int 1), (.int 3)])) (fun t k => XS.iconst X0.here hx rfl (hb hby d9_10) k) ?_
  refine oS (B := s₁.setTop (mkF m 12 #[iv 3] [(.int 2)])) (fun t k => XS.isub X0.here hx rfl (hb hby d9_11) rfl k) ?_
  obtain ⟨_, _, ⟨T1, L1, k1, n1⟩, -, X1, ⟨Lc1, hQ1, l1, y1, z1⟩, st1⟩ := Jvm.LawKit.callS X0 hx (y := (⟨"java/lang/Integer", "highestOneBit", "(I)I"⟩ : MethodName)) hown (mvT hZ (ow hw 62 rfl)) (mvT hZ (ow hw 63 rfl)) (mvT hZ (ow hw 64 rfl)) (mvT hZ (ow hw 65 rfl)) (by decide) (backOf (W := 0) (rm10_3 l Z a0 hw []   h0 n0 Z0 ) hZ (ow hw 65 rfl) (ow hw 64 rfl) (by decide) (by decide)) (g := (mkF m 12 #[iv 3] [(.int 2)])) rfl (by rw [hml]; rfl) (argsL := [(.int 2)]) (rest := []) (lenOf pd_0 rfl) rfl (by show 2 * 0 + _ ≤ _; exact Nat.le_of_eq rfl) (hb hby d9_12) (fun _ _ => ⟨rfl, e0, (by decide : 0 + 0 ≤ _), (by decide : 0 + 0 ≤ _)⟩)
  dsimp only [Pt.U, Pt.locs, Pt.cells, Pt.slots] at X1 l1 y1 z1 st1 hQ1
  subst l1 y1 z1
  obtain ⟨rfl, N1q, e1⟩ := hQ1
  have N0 := Fr.app N0 N1q
  refine oS (B := T1.setTop (mkF m 15 #[iv 3] [(.int 2)])) (fun t k => st1 t k) ?_
  refine oS (B := T1.setTop (mkF m 16 #[iv 3] [(.int 1), (.int 2)])) (fun t k => XS.iconst X1.here hx rfl (hb hby d9_15) k) ?_
  refine oS (B := T1.setTop (mkF m 17 #[iv 3] [(.int 4)])) (fun t k => XS.ishl X1.here hx rfl (hb hby d9_16) rfl k) ?_
  exact own_retI X1 hx hlk Bd.returns (hb hby d9_17) (by decide) (by decide) (by exact ⟨rfl, N0, e1⟩)
theorem ef_rm11_4 (m : MethodId) (x0 : Int32) : entryFrame m #[(.int x0)] 2 = mkF m 0 #[iv x0, .unset] [] := by first | (simp [entryFrame, mkF, argsToLocals, Value.category]; done) | rfl
def QQ_rm11_4 (Z : State)   (h0 : Heap) (n0 : Nat) (v : Option Value) (h : Heap) (L : List Loc) : Prop := v = some (.int 30) ∧ Fr n0 L ∧ h = h0
set_option maxRecDepth 65536 in
set_option maxHeartbeats 40000000 in
theorem rm11_4 (l : Launch) (Z : State) (a0 : Array Value) (hw : ∀ d ∈ tables_1, d.before a0 Z = true) (ws : List Jvm.Cond)   (h0 : Heap) (n0 : Nat) (Z0 : n0 ≤ h0.size)  :
    MetFree l (⟨"java/lang/Integer", "numberOfLeadingZeros", "(I)I"⟩ : MethodName) (head1 (Jvm.Cond.code (⟨"java/lang/Integer", "numberOfLeadingZeros", "(I)I"⟩ : MethodName) jdk_33_method_47_code 2 (some .int) :: ws) ({ frames := 0, cells := 0, slots := 0, locals := 0 } : Room)) (fun a U => a = #[(.int 3)] ∧ Z.Warmed39 U.vm ∧ U.heap = h0) (fun _ _ _ _ _ => True) (fun _ U o U' => ∃ v L, o = .returned v ∧ (QQ_rm11_4 Z  h0 n0) v U'.heap L ∧ FrameEnd U o U' L ({ frames := 0, cells := 0, slots := 0, locals := 0 } : Room).cells ({ frames := 0, cells := 0, slots := 0, locals := 0 } : Room).slots) := by
  refine MetFree.of_bodySF (plainFor_of_name pn_java_lang_Integer) hisR ?_
  intro p e s m args below meth c s₁ Bd hml0 hP hK
  obtain ⟨rfl, hZ, hh⟩ := hP
  have hx := Bd.exec
  have hby := Bd.bytes
  have hlk : meth.locks = false := BodyLoose.notSynchronized Bd
  have hml : c.maxLocals = 2 := hml0
  have hown : s.vm.findClass "java/lang/Integer" = some m.cls := findClass_of_methodNamed Bd.named
  have hnm := (name_of_methodNamed Bd.named Bd.method).1
  have X0 : Stand p l e ({ frames := 0, cells := 0, slots := 0, locals := 0 } : Room) s m #[(.int 3)] below meth c s₁ [] 0 0 := Stand.of_body Bd
  have e0 : s₁.heap = h0 := by rw [← hh, Bd.state]; rfl
  have N0 := Fr.nil n0
  show own_G p.tables e below s (QQ_rm11_4 Z  h0 n0) ({ frames := 0, cells := 0, slots := 0, locals := 0 } : Room).cells ({ frames := 0, cells := 0, slots := 0, locals := 0 } : Room).slots (s₁.setTop (entryFrame m #[(.int 3)] 2))
  refine oS (B := s₁.setTop (mkF m 0 #[iv 3, .unset] [])) (fun t k => castTop (ef_rm11_4 m (3 : Int32)) k) ?_
  refine oS (B := s₁.setTop (mkF m 1 #[iv 3, .unset] [(.int 3)])) (fun t k => XS.iloadN X0.here hx rfl (hb hby d11_0) rfl k) ?_
  refine oS (B := s₁.setTop (mkF m 15 #[iv 3, .unset] [])) (fun t k => XS.ifYes X0.here hx rfl (pc0 := 1) (pc' := 15) rfl (hb hby d11_1) rfl ((if0 _ _).trans (tlt (by decide)).2.2.1) (by decide) (by decide) k) ?_
  refine oS (B := s₁.setTop (mkF m 17 #[iv 3, .unset] [(.int 31)])) (fun t k => XS.bipush X0.here hx rfl (hb hby d11_15) k) ?_
  refine oS (B := s₁.setTop (mkF m 18 #[iv 3, iv 31] [])) (fun t k => XS.istoreN X0.here hx rfl (hb hby d11_17) rfl (l' := #[iv 3, iv 31]) rfl k) ?_
  refine oS (B := s₁.setTop (mkF m 19 #[iv 3, iv 31] [(.int 3)])) (fun t k => XS.iloadN X0.here hx rfl (hb hby d11_18) rfl k) ?_
  refine oS (B := s₁.setTop (mkF m 22 #[iv 3, iv 31] [(.int 65536), (.int 3)])) (fun t k => X0.ldcWInt hx hown (mvT hZ (ow hw 70 rfl)) (g := (mkF m 19 #[iv 3, iv 31] [(.int 3)])) rfl (hb hby d11_19) t k) ?_
  refine oS (B := s₁.setTop (mkF m 33 #[iv 3, iv 31] [])) (fun t k => XS.icmpYes X0.here hx rfl (pc0 := 22) (pc' := 33) rfl (hb hby d11_22) rfl (tlt (by decide)).1 (by decide) (by decide) k) ?_
  refine oS (B := s₁.setTop (mkF m 34 #[iv 3, iv 31] [(.int 3)])) (fun t k => XS.iloadN X0.here hx rfl (hb hby d11_33) rfl k) ?_
  refine oS (B := s₁.setTop (mkF m 37 #[iv 3, iv 31] [(.int 256), (.int 3)])) (fun t k => XS.sipush X0.here hx rfl (hb hby d11_34) k) ?_
  refine oS (B := s₁.setTop (mkF m 48 #[iv 3, iv 31] [])) (fun t k => XS.icmpYes X0.here hx rfl (pc0 := 37) (pc' := 48) rfl (hb hby d11_37) rfl (tlt (by decide)).1 (by decide) (by decide) k) ?_
  refine oS (B := s₁.setTop (mkF m 49 #[iv 3, iv 31] [(.int 3)])) (fun t k => XS.iloadN X0.here hx rfl (hb hby d11_48) rfl k) ?_
  refine oS (B := s₁.setTop (mkF m 51 #[iv 3, iv 31] [(.int 16), (.int 3)])) (fun t k => XS.bipush X0.here hx rfl (hb hby d11_49) k) ?_
  refine oS (B := s₁.setTop (mkF m 61 #[iv 3, iv 31] [])) (fun t k => XS.icmpYes X0.here hx rfl (pc0 := 51) (pc' := 61) rfl (hb hby d11_51) rfl (tlt (by decide)).1 (by decide) (by decide) k) ?_
  refine oS (B := s₁.setTop (mkF m 62 #[iv 3, iv 31] [(.int 3)])) (fun t k => XS.iloadN X0.here hx rfl (hb hby d11_61) rfl k) ?_
  refine oS (B := s₁.setTop (mkF m 63 #[iv 3, iv 31] [(.int 4), (.int 3)])) (fun t k => XS.iconst X0.here hx rfl (hb hby d11_62) k) ?_
  refine oS (B := s₁.setTop (mkF m 73 #[iv 3, iv 31] [])) (fun t k => XS.icmpYes X0.here hx rfl (pc0 := 63) (pc' := 73) rfl (hb hby d11_63) rfl (tlt (by decide)).1 (by decide) (by decide) k) ?_
  refine oS (B := s₁.setTop (mkF m 74 #[iv 3, iv 31] [(.int 31)])) (fun t k => XS.iloadN X0.here hx rfl (hb hby d11_73) rfl k) ?_
  refine oS (B := s₁.setTop (mkF m 75 #[iv 3, iv 31] [(.int 3), (.int 31)])) (fun t k => XS.iloadN X0.here hx rfl (hb hby d11_74) rfl k) ?_
  refine oS (B := s₁.setTop (mkF m 76 #[iv 3, iv 31] [(.int 1), (.int 3), (.int 31)])) (fun t k => XS.iconst X0.here hx rfl (hb hby d11_75) k) ?_
  refine oS (B := s₁.setTop (mkF m 77 #[iv 3, iv 31] [(.int 1), (.int 31)])) (fun t k => XS.iushr X0.here hx rfl (hb hby d11_76) rfl k) ?_
  refine oS (B := s₁.setTop (mkF m 78 #[iv 3, iv 31] [(.int 30)])) (fun t k => XS.isub X0.here hx rfl (hb hby d11_77) rfl k) ?_
  exact own_retI X0 hx hlk Bd.returns (hb hby d11_78) (by decide) (by decide) (by exact ⟨rfl, N0, e0⟩)
theorem ef_rm10_4 (m : MethodId) (x0 : Int32) : entryFrame m #[(.int x0)] 1 = mkF m 0 #[iv x0] [] := by first | (simp [entryFrame, mkF, argsToLocals, Value.category]; done) | rfl
def QQ_rm10_4 (Z : State)   (h0 : Heap) (n0 : Nat) (v : Option Value) (h : Heap) (L : List Loc) : Prop := v = some (.int 2) ∧ Fr n0 L ∧ h = h0
set_option maxRecDepth 65536 in
set_option maxHeartbeats 40000000 in
theorem rm10_4 (l : Launch) (Z : State) (a0 : Array Value) (hw : ∀ d ∈ tables_1, d.before a0 Z = true) (ws : List Jvm.Cond)   (h0 : Heap) (n0 : Nat) (Z0 : n0 ≤ h0.size)  :
    MetFree l (⟨"java/lang/Integer", "highestOneBit", "(I)I"⟩ : MethodName) (head1 (Jvm.Cond.code (⟨"java/lang/Integer", "highestOneBit", "(I)I"⟩ : MethodName) jdk_33_method_45_code 1 (some .int) :: ws) ({ frames := 1, cells := 0, slots := 0, locals := 15 } : Room)) (fun a U => a = #[(.int 3)] ∧ Z.Warmed39 U.vm ∧ U.heap = h0) (fun _ _ _ _ _ => True) (fun _ U o U' => ∃ v L, o = .returned v ∧ (QQ_rm10_4 Z  h0 n0) v U'.heap L ∧ FrameEnd U o U' L ({ frames := 1, cells := 0, slots := 0, locals := 15 } : Room).cells ({ frames := 1, cells := 0, slots := 0, locals := 15 } : Room).slots) := by
  refine MetFree.of_bodySF (plainFor_of_name pn_java_lang_Integer) hisR ?_
  intro p e s m args below meth c s₁ Bd hml0 hP hK
  obtain ⟨rfl, hZ, hh⟩ := hP
  have hx := Bd.exec
  have hby := Bd.bytes
  have hlk : meth.locks = false := BodyLoose.notSynchronized Bd
  have hml : c.maxLocals = 1 := hml0
  have hown : s.vm.findClass "java/lang/Integer" = some m.cls := findClass_of_methodNamed Bd.named
  have hnm := (name_of_methodNamed Bd.named Bd.method).1
  have X0 : Stand p l e ({ frames := 1, cells := 0, slots := 0, locals := 15 } : Room) s m #[(.int 3)] below meth c s₁ [] 0 0 := Stand.of_body Bd
  have e0 : s₁.heap = h0 := by rw [← hh, Bd.state]; rfl
  have N0 := Fr.nil n0
  show own_G p.tables e below s (QQ_rm10_4 Z  h0 n0) ({ frames := 1, cells := 0, slots := 0, locals := 15 } : Room).cells ({ frames := 1, cells := 0, slots := 0, locals := 15 } : Room).slots (s₁.setTop (entryFrame m #[(.int 3)] 1))
  refine oS (B := s₁.setTop (mkF m 0 #[iv 3] [])) (fun t k => castTop (ef_rm10_4 m (3 : Int32)) k) ?_
  refine oS (B := s₁.setTop (mkF m 1 #[iv 3] [(.int 3)])) (fun t k => XS.iloadN X0.here hx rfl (hb hby d10_0) rfl k) ?_
  refine oS (B := s₁.setTop (mkF m 3 #[iv 3] [(.int (-2147483648 : Int32)), (.int 3)])) (fun t k => X0.ldcInt hx hown (mvT hZ (ow hw 66 rfl)) (g := (mkF m 1 #[iv 3] [(.int 3)])) rfl (hb hby d10_1) t k) ?_
  refine oS (B := s₁.setTop (mkF m 4 #[iv 3] [(.int 3), (.int (-2147483648 : Int32)), (.int 3)])) (fun t k => XS.iloadN X0.here hx rfl (hb hby d10_3) rfl k) ?_
  obtain ⟨_, _, ⟨T1, L1, k1, n1⟩, -, X1, ⟨Lc1, hQ1, l1, y1, z1⟩, st1⟩ := Jvm.LawKit.callS X0 hx (y := (⟨"java/lang/Integer", "numberOfLeadingZeros", "(I)I"⟩ : MethodName)) hown (mvT hZ (ow hw 67 rfl)) (mvT hZ (ow hw 68 rfl)) (mvT hZ (ow hw 64 rfl)) (mvT hZ (ow hw 69 rfl)) (by decide) (backOf (W := 2) (rm11_4 l Z a0 hw []   h0 n0 Z0 ) hZ (ow hw 69 rfl) (ow hw 64 rfl) (by decide) (by decide)) (g := (mkF m 4 #[iv 3] [(.int 3), (.int (-2147483648 : Int32)), (.int 3)])) rfl (by rw [hml]; rfl) (argsL := [(.int 3)]) (rest := [(.int (-2147483648 : Int32)), (.int 3)]) (lenOf pd_0 rfl) rfl (by show 2 * 0 + _ ≤ _; exact Nat.le_of_eq rfl) (hb hby d10_4) (fun _ _ => ⟨rfl, e0, (by decide : 0 + 0 ≤ _), (by decide : 0 + 0 ≤ _)⟩)
  dsimp only [Pt.U, Pt.locs, Pt.cells, Pt.slots] at X1 l1 y1 z1 st1 hQ1
  subst l1 y1 z1
  obtain ⟨rfl, N1q, e1⟩ := hQ1
  have N0 := Fr.app N0 N1q
  refine oS (B := T1.setTop (mkF m 7 #[iv 3] [(.int 30), (.int (-2147483648 : Int32)), (.int 3)])) (fun t k => st1 t k) ?_
  refine oS (B := T1.setTop (mkF m 8 #[iv 3] [(.int 2), (.int 3)])) (fun t k => XS.iushr X1.here hx rfl (hb hby d10_7) rfl k) ?_
  refine oS (B := T1.setTop (mkF m 9 #[iv 3] [(.int 2)])) (fun t k => XS.iand X1.here hx rfl (hb hby d10_8) rfl k) ?_
  exact own_retI X1 hx hlk Bd.returns (hb hby d10_9) (by decide) (by decide) (by exact ⟨rfl, N0, e1⟩)
theorem ef_rm9_4 (m : MethodId) (x0 : Int32) : entryFrame m #[(.int x0)] 1 = mkF m 0 #[iv x0] [] := by first | (simp [entryFrame, mkF, argsToLocals, Value.category]; done) | rfl
def QQ_rm9_4 (Z : State)   (h0 : Heap) (n0 : Nat) (v : Option Value) (h : Heap) (L : List Loc) : Prop := v = some (.int 4) ∧ Fr n0 L ∧ h = h0
set_option maxRecDepth 65536 in
set_option maxHeartbeats 40000000 in
theorem rm9_4 (l : Launch) (Z : State) (a0 : Array Value) (hw : ∀ d ∈ tables_1, d.before a0 Z = true) (ws : List Jvm.Cond)   (h0 : Heap) (n0 : Nat) (Z0 : n0 ≤ h0.size)  :
    MetFree l (⟨"com/example/loomwire/loomwire/transport/MessageBuffer", "chunkCapacity", "(I)I"⟩ : MethodName) (head1 (Jvm.Cond.code (⟨"com/example/loomwire/loomwire/transport/MessageBuffer", "chunkCapacity", "(I)I"⟩ : MethodName) prog_102_method_7_code 1 (some .int) :: ws) ({ frames := 2, cells := 0, slots := 0, locals := 27 } : Room)) (fun a U => a = #[(.int 4)] ∧ Z.Warmed39 U.vm ∧ U.heap = h0) (fun _ _ _ _ _ => True) (fun _ U o U' => ∃ v L, o = .returned v ∧ (QQ_rm9_4 Z  h0 n0) v U'.heap L ∧ FrameEnd U o U' L ({ frames := 2, cells := 0, slots := 0, locals := 27 } : Room).cells ({ frames := 2, cells := 0, slots := 0, locals := 27 } : Room).slots) := by
  refine MetFree.of_bodySF (plainFor_of_name pn_com_example_loomwire_loomwire_transport_MessageBuffer) hisR ?_
  intro p e s m args below meth c s₁ Bd hml0 hP hK
  obtain ⟨rfl, hZ, hh⟩ := hP
  have hx := Bd.exec
  have hby := Bd.bytes
  have hlk : meth.locks = false := BodyLoose.notSynchronized Bd
  have hml : c.maxLocals = 1 := hml0
  have hown : s.vm.findClass "com/example/loomwire/loomwire/transport/MessageBuffer" = some m.cls := findClass_of_methodNamed Bd.named
  have hnm := (name_of_methodNamed Bd.named Bd.method).1
  have X0 : Stand p l e ({ frames := 2, cells := 0, slots := 0, locals := 27 } : Room) s m #[(.int 4)] below meth c s₁ [] 0 0 := Stand.of_body Bd
  have e0 : s₁.heap = h0 := by rw [← hh, Bd.state]; rfl
  have N0 := Fr.nil n0
  show own_G p.tables e below s (QQ_rm9_4 Z  h0 n0) ({ frames := 2, cells := 0, slots := 0, locals := 27 } : Room).cells ({ frames := 2, cells := 0, slots := 0, locals := 27 } : Room).slots (s₁.setTop (entryFrame m #[(.int 4)] 1))
  refine oS (B := s₁.setTop (mkF m 0 #[iv 4] [])) (fun t k => castTop (ef_rm9_4 m (4 : Int32)) k) ?_
  refine oS (B := s₁.setTop (mkF m 1 #[iv 4] [(.int 4)])) (fun t k => XS.iloadN X0.here hx rfl (hb hby d9_0) rfl k) ?_
  refine oS (B := s₁.setTop (mkF m 2 #[iv 4] [(.int 1), (.int 4)])) (fun t k => XS.iconst X0.here hx rfl (hb hby d9_1) k) ?_
  refine oS (B := s₁.setTop (mkF m 9 #[iv 4] [])) (fun t k => XS.icmpYes X0.here hx rfl (pc0 := 2) (pc' := 9) rfl (hb hby d9_2) rfl (tlt (by decide)).2.2.1 (by decide) (by decide) k) ?_
  refine oS (B := s₁.setTop (mkF m 10 #[iv 4] [(.int 4)])) (fun t k => XS.iloadN X0.here hx rfl (hb hby d9_9) rfl k) ?_
  refine oS (B := s₁.setTop (mkF m 11 #[iv 4] [(.int 1), (.int 4)])) (fun t k => XS.iconst X0.here hx rfl (hb hby d9_10) k) ?_
  refine oS (B := s₁.setTop (mkF m 12 #[iv 4] [(.int 3)])) (fun t k => XS.isub X0.here hx rfl (hb hby d9_11) rfl k) ?_
  obtain ⟨_, _, ⟨T1, L1, k1, n1⟩, -, X1, ⟨Lc1, hQ1, l1, y1, z1⟩, st1⟩ := Jvm.LawKit.callS X0 hx (y := (⟨"java/lang/Integer", "highestOneBit", "(I)I"⟩ : MethodName)) hown (mvT hZ (ow hw 62 rfl)) (mvT hZ (ow hw 63 rfl)) (mvT hZ (ow hw 64 rfl)) (mvT hZ (ow hw 65 rfl)) (by decide) (backOf (W := 0) (rm10_4 l Z a0 hw []   h0 n0 Z0 ) hZ (ow hw 65 rfl) (ow hw 64 rfl) (by decide) (by decide)) (g := (mkF m 12 #[iv 4] [(.int 3)])) rfl (by rw [hml]; rfl) (argsL := [(.int 3)]) (rest := []) (lenOf pd_0 rfl) rfl (by show 2 * 0 + _ ≤ _; exact Nat.le_of_eq rfl) (hb hby d9_12) (fun _ _ => ⟨rfl, e0, (by decide : 0 + 0 ≤ _), (by decide : 0 + 0 ≤ _)⟩)
  dsimp only [Pt.U, Pt.locs, Pt.cells, Pt.slots] at X1 l1 y1 z1 st1 hQ1
  subst l1 y1 z1
  obtain ⟨rfl, N1q, e1⟩ := hQ1
  have N0 := Fr.app N0 N1q
  refine oS (B := T1.setTop (mkF m 15 #[iv 4] [(.int 2)])) (fun t k => st1 t k) ?_
  refine oS (B := T1.setTop (mkF m 16 #[iv 4] [(.int 1), (.int 2)])) (fun t k => XS.iconst X1.here hx rfl (hb hby d9_15) k) ?_
  refine oS (B := T1.setTop (mkF m 17 #[iv 4] [(.int 4)])) (fun t k => XS.ishl X1.here hx rfl (hb hby d9_16) rfl k) ?_
  exact own_retI X1 hx hlk Bd.returns (hb hby d9_17) (by decide) (by decide) (by exact ⟨rfl, N0, e1⟩)
theorem d11_66 : decode jdk_33_method_47_code 66 = .ok (.iinc 1 (-2), 3) := by decide +kernel
theorem d11_69 : decode jdk_33_method_47_code 69 = .ok (.iload_n 0, 1) := by decide +kernel
theorem d11_70 : decode jdk_33_method_47_code 70 = .ok (.iconst 2, 1) := by decide +kernel
theorem d11_71 : decode jdk_33_method_47_code 71 = .ok (.iushr, 1) := by decide +kernel
theorem d11_72 : decode jdk_33_method_47_code 72 = .ok (.istore_n 0, 1) := by decide +kernel
theorem ef_rm11_5 (m : MethodId) (x0 : Int32) : entryFrame m #[(.int x0)] 2 = mkF m 0 #[iv x0, .unset] [] := by first | (simp [entryFrame, mkF, argsToLocals, Value.category]; done) | rfl
def QQ_rm11_5 (Z : State)   (h0 : Heap) (n0 : Nat) (v : Option Value) (h : Heap) (L : List Loc) : Prop := v = some (.int 29) ∧ Fr n0 L ∧ h = h0
set_option maxRecDepth 65536 in
set_option maxHeartbeats 40000000 in
theorem rm11_5 (l : Launch) (Z : State) (a0 : Array Value) (hw : ∀ d ∈ tables_1, d.before a0 Z = true) (ws : List Jvm.Cond)   (h0 : Heap) (n0 : Nat) (Z0 : n0 ≤ h0.size)  :
    MetFree l (⟨"java/lang/Integer", "numberOfLeadingZeros", "(I)I"⟩ : MethodName) (head1 (Jvm.Cond.code (⟨"java/lang/Integer", "numberOfLeadingZeros", "(I)I"⟩ : MethodName) jdk_33_method_47_code 2 (some .int) :: ws) ({ frames := 0, cells := 0, slots := 0, locals := 0 } : Room)) (fun a U => a = #[(.int 4)] ∧ Z.Warmed39 U.vm ∧ U.heap = h0) (fun _ _ _ _ _ => True) (fun _ U o U' => ∃ v L, o = .returned v ∧ (QQ_rm11_5 Z  h0 n0) v U'.heap L ∧ FrameEnd U o U' L ({ frames := 0, cells := 0, slots := 0, locals := 0 } : Room).cells ({ frames := 0, cells := 0, slots := 0, locals := 0 } : Room).slots) := by
  refine MetFree.of_bodySF (plainFor_of_name pn_java_lang_Integer) hisR ?_
  intro p e s m args below meth c s₁ Bd hml0 hP hK
  obtain ⟨rfl, hZ, hh⟩ := hP
  have hx := Bd.exec
  have hby := Bd.bytes
  have hlk : meth.locks = false := BodyLoose.notSynchronized Bd
  have hml : c.maxLocals = 2 := hml0
  have hown : s.vm.findClass "java/lang/Integer" = some m.cls := findClass_of_methodNamed Bd.named
  have hnm := (name_of_methodNamed Bd.named Bd.method).1
  have X0 : Stand p l e ({ frames := 0, cells := 0, slots := 0, locals := 0 } : Room) s m #[(.int 4)] below meth c s₁ [] 0 0 := Stand.of_body Bd
  have e0 : s₁.heap = h0 := by rw [← hh, Bd.state]; rfl
  have N0 := Fr.nil n0
  show own_G p.tables e below s (QQ_rm11_5 Z  h0 n0) ({ frames := 0, cells := 0, slots := 0, locals := 0 } : Room).cells ({ frames := 0, cells := 0, slots := 0, locals := 0 } : Room).slots (s₁.setTop (entryFrame m #[(.int 4)] 2))
  refine oS (B := s₁.setTop (mkF m 0 #[iv 4, .unset] [])) (fun t k => castTop (ef_rm11_5 m (4 : Int32)) k) ?_
  refine oS (B := s₁.setTop (mkF m 1 #[iv 4, .unset] [(.int 4)])) (fun t k => XS.iloadN X0.here hx rfl (hb hby d11_0) rfl k) ?_
  refine oS (B := s₁.setTop (mkF m 15 #[iv 4, .unset] [])) (fun t k => XS.ifYes X0.here hx rfl (pc0 := 1) (pc' := 15) rfl (hb hby d11_1) rfl ((if0 _ _).trans (tlt (by decide)).2.2.1) (by decide) (by decide) k) ?_
  refine oS (B := s₁.setTop (mkF m 17 #[iv 4, .unset] [(.int 31)])) (fun t k => XS.bipush X0.here hx rfl (hb hby d11_15) k) ?_
  refine oS (B := s₁.setTop (mkF m 18 #[iv 4, iv 31] [])) (fun t k => XS.istoreN X0.here hx rfl (hb hby d11_17) rfl (l' := #[iv 4, iv 31]) rfl k) ?_
  refine oS (B := s₁.setTop (mkF m 19 #[iv 4, iv 31] [(.int 4)])) (fun t k => XS.iloadN X0.here hx rfl (hb hby d11_18) rfl k) ?_
  refine oS (B := s₁.setTop (mkF m 22 #[iv 4, iv 31] [(.int 65536), (.int 4)])) (fun t k => X0.ldcWInt hx hown (mvT hZ (ow hw 70 rfl)) (g := (mkF m 19 #[iv 4, iv 31] [(.int 4)])) rfl (hb hby d11_19) t k) ?_
  refine oS (B := s₁.setTop (mkF m 33 #[iv 4, iv 31] [])) (fun t k => XS.icmpYes X0.here hx rfl (pc0 := 22) (pc' := 33) rfl (hb hby d11_22) rfl (tlt (by decide)).1 (by decide) (by decide) k) ?_
  refine oS (B := s₁.setTop (mkF m 34 #[iv 4, iv 31] [(.int 4)])) (fun t k => XS.iloadN X0.here hx rfl (hb hby d11_33) rfl k) ?_
  refine oS (B := s₁.setTop (mkF m 37 #[iv 4, iv 31] [(.int 256), (.int 4)])) (fun t k => XS.sipush X0.here hx rfl (hb hby d11_34) k) ?_
  refine oS (B := s₁.setTop (mkF m 48 #[iv 4, iv 31] [])) (fun t k => XS.icmpYes X0.here hx rfl (pc0 := 37) (pc' := 48) rfl (hb hby d11_37) rfl (tlt (by decide)).1 (by decide) (by decide) k) ?_
  refine oS (B := s₁.setTop (mkF m 49 #[iv 4, iv 31] [(.int 4)])) (fun t k => XS.iloadN X0.here hx rfl (hb hby d11_48) rfl k) ?_
  refine oS (B := s₁.setTop (mkF m 51 #[iv 4, iv 31] [(.int 16), (.int 4)])) (fun t k => XS.bipush X0.here hx rfl (hb hby d11_49) k) ?_
  refine oS (B := s₁.setTop (mkF m 61 #[iv 4, iv 31] [])) (fun t k => XS.icmpYes X0.here hx rfl (pc0 := 51) (pc' := 61) rfl (hb hby d11_51) rfl (tlt (by decide)).1 (by decide) (by decide) k) ?_
  refine oS (B := s₁.setTop (mkF m 62 #[iv 4, iv 31] [(.int 4)])) (fun t k => XS.iloadN X0.here hx rfl (hb hby d11_61) rfl k) ?_
  refine oS (B := s₁.setTop (mkF m 63 #[iv 4, iv 31] [(.int 4), (.int 4)])) (fun t k => XS.iconst X0.here hx rfl (hb hby d11_62) k) ?_
  refine oS (B := s₁.setTop (mkF m 66 #[iv 4, iv 31] [])) (fun t k => XS.icmpNo X0.here hx rfl (hb hby d11_63) rfl (flt (by decide)).1 k) ?_
  refine oS (B := s₁.setTop (mkF m 69 #[iv 4, iv 29] [])) (fun t k => XS.iinc X0.here hx rfl (hb hby d11_66) rfl (l' := #[iv 4, iv 29]) rfl k) ?_
  refine oS (B := s₁.setTop (mkF m 70 #[iv 4, iv 29] [(.int 4)])) (fun t k => XS.iloadN X0.here hx rfl (hb hby d11_69) rfl k) ?_
  refine oS (B := s₁.setTop (mkF m 71 #[iv 4, iv 29] [(.int 2), (.int 4)])) (fun t k => XS.iconst X0.here hx rfl (hb hby d11_70) k) ?_
  refine oS (B := s₁.setTop (mkF m 72 #[iv 4, iv 29] [(.int 1)])) (fun t k => XS.iushr X0.here hx rfl (hb hby d11_71) rfl k) ?_
  refine oS (B := s₁.setTop (mkF m 73 #[iv 1, iv 29] [])) (fun t k => XS.istoreN X0.here hx rfl (hb hby d11_72) rfl (l' := #[iv 1, iv 29]) rfl k) ?_
  refine oS (B := s₁.setTop (mkF m 74 #[iv 1, iv 29] [(.int 29)])) (fun t k => XS.iloadN X0.here hx rfl (hb hby d11_73) rfl k) ?_
  refine oS (B := s₁.setTop (mkF m 75 #[iv 1, iv 29] [(.int 1), (.int 29)])) (fun t k => XS.iloadN X0.here hx rfl (hb hby d11_74) rfl k) ?_
  refine oS (B := s₁.setTop (mkF m 76 #[iv 1, iv 29] [(.int 1), (.int 1), (.int 29)])) (fun t k => XS.iconst X0.here hx rfl (hb hby d11_75) k) ?_
  refine oS (B := s₁.setTop (mkF m 77 #[iv 1, iv 29] [(.int 0), (.int 29)])) (fun t k => XS.iushr X0.here hx rfl (hb hby d11_76) rfl k) ?_
  refine oS (B := s₁.setTop (mkF m 78 #[iv 1, iv 29] [(.int 29)])) (fun t k => XS.isub X0.here hx rfl (hb hby d11_77) rfl k) ?_
  exact own_retI X0 hx hlk Bd.returns (hb hby d11_78) (by decide) (by decide) (by exact ⟨rfl, N0, e0⟩)
theorem ef_rm10_5 (m : MethodId) (x0 : Int32) : entryFrame m #[(.int x0)] 1 = mkF m 0 #[iv x0] [] := by first | (simp [entryFrame, mkF, argsToLocals, Value.category]; done) | rfl
def QQ_rm10_5 (Z : State)   (h0 : Heap) (n0 : Nat) (v : Option Value) (h : Heap) (L : List Loc) : Prop := v = some (.int 4) ∧ Fr n0 L ∧ h = h0
set_option maxRecDepth 65536 in
set_option maxHeartbeats 40000000 in
theorem rm10_5 (l : Launch) (Z : State) (a0 : Array Value) (hw : ∀ d ∈ tables_1, d.before a0 Z = true) (ws : List Jvm.Cond)   (h0 : Heap) (n0 : Nat) (Z0 : n0 ≤ h0.size)  :
    MetFree l (⟨"java/lang/Integer", "highestOneBit", "(I)I"⟩ : MethodName) (head1 (Jvm.Cond.code (⟨"java/lang/Integer", "highestOneBit", "(I)I"⟩ : MethodName) jdk_33_method_45_code 1 (some .int) :: ws) ({ frames := 1, cells := 0, slots := 0, locals := 15 } : Room)) (fun a U => a = #[(.int 4)] ∧ Z.Warmed39 U.vm ∧ U.heap = h0) (fun _ _ _ _ _ => True) (fun _ U o U' => ∃ v L, o = .returned v ∧ (QQ_rm10_5 Z  h0 n0) v U'.heap L ∧ FrameEnd U o U' L ({ frames := 1, cells := 0, slots := 0, locals := 15 } : Room).cells ({ frames := 1, cells := 0, slots := 0, locals := 15 } : Room).slots) := by
  refine MetFree.of_bodySF (plainFor_of_name pn_java_lang_Integer) hisR ?_
  intro p e s m args below meth c s₁ Bd hml0 hP hK
  obtain ⟨rfl, hZ, hh⟩ := hP
  have hx := Bd.exec
  have hby := Bd.bytes
  have hlk : meth.locks = false := BodyLoose.notSynchronized Bd
  have hml : c.maxLocals = 1 := hml0
  have hown : s.vm.findClass "java/lang/Integer" = some m.cls := findClass_of_methodNamed Bd.named
  have hnm := (name_of_methodNamed Bd.named Bd.method).1
  have X0 : Stand p l e ({ frames := 1, cells := 0, slots := 0, locals := 15 } : Room) s m #[(.int 4)] below meth c s₁ [] 0 0 := Stand.of_body Bd
  have e0 : s₁.heap = h0 := by rw [← hh, Bd.state]; rfl
  have N0 := Fr.nil n0
  show own_G p.tables e below s (QQ_rm10_5 Z  h0 n0) ({ frames := 1, cells := 0, slots := 0, locals := 15 } : Room).cells ({ frames := 1, cells := 0, slots := 0, locals := 15 } : Room).slots (s₁.setTop (entryFrame m #[(.int 4)] 1))
  refine oS (B := s₁.setTop (mkF m 0 #[iv 4] [])) (fun t k => castTop (ef_rm10_5 m (4 : Int32)) k) ?_
  refine oS (B := s₁.setTop (mkF m 1 #[iv 4] [(.int 4)])) (fun t k => XS.iloadN X0.here hx rfl (hb hby d10_0) rfl k) ?_
  refine oS (B := s₁.setTop (mkF m 3 #[iv 4] [(.int (-2147483648 : Int32)), (.int 4)])) (fun t k => X0.ldcInt hx hown (mvT hZ (ow hw 66 rfl)) (g := (mkF m 1 #[iv 4] [(.int 4)])) rfl (hb hby d10_1) t k) ?_
  refine oS (B := s₁.setTop (mkF m 4 #[iv 4] [(.int 4), (.int (-2147483648 : Int32)), (.int 4)])) (fun t k => XS.iloadN X0.here hx rfl (hb hby d10_3) rfl k) ?_
  obtain ⟨_, _, ⟨T1, L1, k1, n1⟩, -, X1, ⟨Lc1, hQ1, l1, y1, z1⟩, st1⟩ := Jvm.LawKit.callS X0 hx (y := (⟨"java/lang/Integer", "numberOfLeadingZeros", "(I)I"⟩ : MethodName)) hown (mvT hZ (ow hw 67 rfl)) (mvT hZ (ow hw 68 rfl)) (mvT hZ (ow hw 64 rfl)) (mvT hZ (ow hw 69 rfl)) (by decide) (backOf (W := 2) (rm11_5 l Z a0 hw []   h0 n0 Z0 ) hZ (ow hw 69 rfl) (ow hw 64 rfl) (by decide) (by decide)) (g := (mkF m 4 #[iv 4] [(.int 4), (.int (-2147483648 : Int32)), (.int 4)])) rfl (by rw [hml]; rfl) (argsL := [(.int 4)]) (rest := [(.int (-2147483648 : Int32)), (.int 4)]) (lenOf pd_0 rfl) rfl (by show 2 * 0 + _ ≤ _; exact Nat.le_of_eq rfl) (hb hby d10_4) (fun _ _ => ⟨rfl, e0, (by decide : 0 + 0 ≤ _), (by decide : 0 + 0 ≤ _)⟩)
  dsimp only [Pt.U, Pt.locs, Pt.cells, Pt.slots] at X1 l1 y1 z1 st1 hQ1
  subst l1 y1 z1
  obtain ⟨rfl, N1q, e1⟩ := hQ1
  have N0 := Fr.app N0 N1q
  refine oS (B := T1.setTop (mkF m 7 #[iv 4] [(.int 29), (.int (-2147483648 : Int32)), (.int 4)])) (fun t k => st1 t k) ?_
  refine oS (B := T1.setTop (mkF m 8 #[iv 4] [(.int 4), (.int 4)])) (fun t k => XS.iushr X1.here hx rfl (hb hby d10_7) rfl k) ?_
  refine oS (B := T1.setTop (mkF m 9 #[iv 4] [(.int 4)])) (fun t k => XS.iand X1.here hx rfl (hb hby d10_8) rfl k) ?_
  exact own_retI X1 hx hlk Bd.returns (hb hby d10_9) (by decide) (by decide) (by exact ⟨rfl, N0, e1⟩)
theorem ef_rm9_5 (m : MethodId) (x0 : Int32) : entryFrame m #[(.int x0)] 1 = mkF m 0 #[iv x0] [] := by first | (simp [entryFrame, mkF, argsToLocals, Value.category]; done) | rfl
def QQ_rm9_5 (Z : State)   (h0 : Heap) (n0 : Nat) (v : Option Value) (h : Heap) (L : List Loc) : Prop := v = some (.int 8) ∧ Fr n0 L ∧ h = h0
set_option maxRecDepth 65536 in
set_option maxHeartbeats 40000000 in
theorem rm9_5 (l : Launch) (Z : State) (a0 : Array Value) (hw : ∀ d ∈ tables_1, d.before a0 Z = true) (ws : List Jvm.Cond)   (h0 : Heap) (n0 : Nat) (Z0 : n0 ≤ h0.size)  :
    MetFree l (⟨"com/example/loomwire/loomwire/transport/MessageBuffer", "chunkCapacity", "(I)I"⟩ : MethodName) (head1 (Jvm.Cond.code (⟨"com/example/loomwire/loomwire/transport/MessageBuffer", "chunkCapacity", "(I)I"⟩ : MethodName) prog_102_method_7_code 1 (some .int) :: ws) ({ frames := 2, cells := 0, slots := 0, locals := 27 } : Room)) (fun a U => a = #[(.int 5)] ∧ Z.Warmed39 U.vm ∧ U.heap = h0) (fun _ _ _ _ _ => True) (fun _ U o U' => ∃ v L, o = .returned v ∧ (QQ_rm9_5 Z  h0 n0) v U'.heap L ∧ FrameEnd U o U' L ({ frames := 2, cells := 0, slots := 0, locals := 27 } : Room).cells ({ frames := 2, cells := 0, slots := 0, locals := 27 } : Room).slots) := by
  refine MetFree.of_bodySF (plainFor_of_name pn_com_example_loomwire_loomwire_transport_MessageBuffer) hisR ?_
  intro p e s m args below meth c s₁ Bd hml0 hP hK
  obtain ⟨rfl, hZ, hh⟩ := hP
  have hx := Bd.exec
  have hby := Bd.bytes
  have hlk : meth.locks = false := BodyLoose.notSynchronized Bd
  have hml : c.maxLocals = 1 := hml0
  have hown : s.vm.findClass "com/example/loomwire/loomwire/transport/MessageBuffer" = some m.cls := findClass_of_methodNamed Bd.named
  have hnm := (name_of_methodNamed Bd.named Bd.method).1
  have X0 : Stand p l e ({ frames := 2, cells := 0, slots := 0, locals := 27 } : Room) s m #[(.int 5)] below meth c s₁ [] 0 0 := Stand.of_body Bd
  have e0 : s₁.heap = h0 := by rw [← hh, Bd.state]; rfl
  have N0 := Fr.nil n0
  show own_G p.tables e below s (QQ_rm9_5 Z  h0 n0) ({ frames := 2, cells := 0, slots := 0, locals := 27 } : Room).cells ({ frames := 2, cells := 0, slots := 0, locals := 27 } : Room).slots (s₁.setTop (entryFrame m #[(.int 5)] 1))
  refine oS (B := s₁.setTop (mkF m 0 #[iv 5] [])) (fun t k => castTop (ef_rm9_5 m (5 : Int32)) k) ?_
  refine oS (B := s₁.setTop (mkF m 1 #[iv 5] [(.int 5)])) (fun t k => XS.iloadN X0.here hx rfl (hb hby d9_0) rfl k) ?_
  refine oS (B := s₁.setTop (mkF m 2 #[iv 5] [(.int 1), (.int 5)])) (fun t k => XS.iconst X0.here hx rfl (hb hby d9_1) k) ?_
  refine oS (B := s₁.setTop (mkF m 9 #[iv 5] [])) (fun t k => XS.icmpYes X0.here hx rfl (pc0 := 2) (pc' := 9) rfl (hb hby d9_2) rfl (tlt (by decide)).2.2.1 (by decide) (by decide) k) ?_
  refine oS (B := s₁.setTop (mkF m 10 #[iv 5] [(.int 5)])) (fun t k => XS.iloadN X0.here hx rfl (hb hby d9_9) rfl k) ?_
  refine oS (B := s₁.setTop (mkF m 11 #[iv 5] [(.int 1), (.int 5)])) (fun t k => XS.iconst X0.here hx rfl (hb hby d9_10) k) ?_
  refine oS (B := s₁.setTop (mkF m 12 #[iv 5] [(.int 4)])) (fun t k => XS.isub X0.here hx rfl (hb hby d9_11) rfl k) ?_
  obtain ⟨_, _, ⟨T1, L1, k1, n1⟩, -, X1, ⟨Lc1, hQ1, l1, y1, z1⟩, st1⟩ := Jvm.LawKit.callS X0 hx (y := (⟨"java/lang/Integer", "highestOneBit", "(I)I"⟩ : MethodName)) hown (mvT hZ (ow hw 62 rfl)) (mvT hZ (ow hw 63 rfl)) (mvT hZ (ow hw 64 rfl)) (mvT hZ (ow hw 65 rfl)) (by decide) (backOf (W := 0) (rm10_5 l Z a0 hw []   h0 n0 Z0 ) hZ (ow hw 65 rfl) (ow hw 64 rfl) (by decide) (by decide)) (g := (mkF m 12 #[iv 5] [(.int 4)])) rfl (by rw [hml]; rfl) (argsL := [(.int 4)]) (rest := []) (lenOf pd_0 rfl) rfl (by show 2 * 0 + _ ≤ _; exact Nat.le_of_eq rfl) (hb hby d9_12) (fun _ _ => ⟨rfl, e0, (by decide : 0 + 0 ≤ _), (by decide : 0 + 0 ≤ _)⟩)
  dsimp only [Pt.U, Pt.locs, Pt.cells, Pt.slots] at X1 l1 y1 z1 st1 hQ1
  subst l1 y1 z1
  obtain ⟨rfl, N1q, e1⟩ := hQ1
  have N0 := Fr.app N0 N1q
  refine oS (B := T1.setTop (mkF m 15 #[iv 5] [(.int 4)])) (fun t k => st1 t k) ?_
  refine oS (B := T1.setTop (mkF m 16 #[iv 5] [(.int 1), (.int 4)])) (fun t k => XS.iconst X1.here hx rfl (hb hby d9_15) k) ?_
  refine oS (B := T1.setTop (mkF m 17 #[iv 5] [(.int 8)])) (fun t k => XS.ishl X1.here hx rfl (hb hby d9_16) rfl k) ?_
  exact own_retI X1 hx hlk Bd.returns (hb hby d9_17) (by decide) (by decide) (by exact ⟨rfl, N0, e1⟩)
theorem ef_rm11_6 (m : MethodId) (x0 : Int32) : entryFrame m #[(.int x0)] 2 = mkF m 0 #[iv x0, .unset] [] := by first | (simp [entryFrame, mkF, argsToLocals, Value.category]; done) | rfl
def QQ_rm11_6 (Z : State)   (h0 : Heap) (n0 : Nat) (v : Option Value) (h : Heap) (L : List Loc) : Prop := v = some (.int 29) ∧ Fr n0 L ∧ h = h0
set_option maxRecDepth 65536 in
set_option maxHeartbeats 40000000 in
theorem rm11_6 (l : Launch) (Z : State) (a0 : Array Value) (hw : ∀ d ∈ tables_1, d.before a0 Z = true) (ws : List Jvm.Cond)   (h0 : Heap) (n0 : Nat) (Z0 : n0 ≤ h0.size)  :
    MetFree l (⟨"java/lang/Integer", "numberOfLeadingZeros", "(I)I"⟩ : MethodName) (head1 (Jvm.Cond.code (⟨"java/lang/Integer", "numberOfLeadingZeros", "(I)I"⟩ : MethodName) jdk_33_method_47_code 2 (some .int) :: ws) ({ frames := 0, cells := 0, slots := 0, locals := 0 } : Room)) (fun a U => a = #[(.int 5)] ∧ Z.Warmed39 U.vm ∧ U.heap = h0) (fun _ _ _ _ _ => True) (fun _ U o U' => ∃ v L, o = .returned v ∧ (QQ_rm11_6 Z  h0 n0) v U'.heap L ∧ FrameEnd U o U' L ({ frames := 0, cells := 0, slots := 0, locals := 0 } : Room).cells ({ frames := 0, cells := 0, slots := 0, locals := 0 } : Room).slots) := by
  refine MetFree.of_bodySF (plainFor_of_name pn_java_lang_Integer) hisR ?_
  intro p e s m args below meth c s₁ Bd hml0 hP hK
  obtain ⟨rfl, hZ, hh⟩ := hP
  have hx := Bd.exec
  have hby := Bd.bytes
  have hlk : meth.locks = false := BodyLoose.notSynchronized Bd
  have hml : c.maxLocals = 2 := hml0
  have hown : s.vm.findClass "java/lang/Integer" = some m.cls := findClass_of_methodNamed Bd.named
  have hnm := (name_of_methodNamed Bd.named Bd.method).1
  have X0 : Stand p l e ({ frames := 0, cells := 0, slots := 0, locals := 0 } : Room) s m #[(.int 5)] below meth c s₁ [] 0 0 := Stand.of_body Bd
  have e0 : s₁.heap = h0 := by rw [← hh, Bd.state]; rfl
  have N0 := Fr.nil n0
  show own_G p.tables e below s (QQ_rm11_6 Z  h0 n0) ({ frames := 0, cells := 0, slots := 0, locals := 0 } : Room).cells ({ frames := 0, cells := 0, slots := 0, locals := 0 } : Room).slots (s₁.setTop (entryFrame m #[(.int 5)] 2))
  refine oS (B := s₁.setTop (mkF m 0 #[iv 5, .unset] [])) (fun t k => castTop (ef_rm11_6 m (5 : Int32)) k) ?_
  refine oS (B := s₁.setTop (mkF m 1 #[iv 5, .unset] [(.int 5)])) (fun t k => XS.iloadN X0.here hx rfl (hb hby d11_0) rfl k) ?_
  refine oS (B := s₁.setTop (mkF m 15 #[iv 5, .unset] [])) (fun t k => XS.ifYes X0.here hx rfl (pc0 := 1) (pc' := 15) rfl (hb hby d11_1) rfl ((if0 _ _).trans (tlt (by decide)).2.2.1) (by decide) (by decide) k) ?_
  refine oS (B := s₁.setTop (mkF m 17 #[iv 5, .unset] [(.int 31)])) (fun t k => XS.bipush X0.here hx rfl (hb hby d11_15) k) ?_
  refine oS (B := s₁.setTop (mkF m 18 #[iv 5, iv 31] [])) (fun t k => XS.istoreN X0.here hx rfl (hb hby d11_17) rfl (l' := #[iv 5, iv 31]) rfl k) ?_
  refine oS (B := s₁.setTop (mkF m 19 #[iv 5, iv 31] [(.int 5)])) (fun t k => XS.iloadN X0.here hx rfl (hb hby d11_18) rfl k) ?_
  refine oS (B := s₁.setTop (mkF m 22 #[iv 5, iv 31] [(.int 65536), (.int 5)])) (fun t k => X0.ldcWInt hx hown (mvT hZ (ow hw 70 rfl)) (g := (mkF m 19 #[iv 5, iv 31] [(.int 5)])) rfl (hb hby d11_19) t k) ?_
  refine oS (B := s₁.setTop (mkF m 33 #[iv 5, iv 31] [])) (fun t k => XS.icmpYes X0.here hx rfl (pc0 := 22) (pc' := 33) rfl (hb hby d11_22) rfl (tlt (by decide)).1 (by decide) (by decide) k) ?_
  refine oS (B := s₁.setTop (mkF m 34 #[iv 5, iv 31] [(.int 5)])) (fun t k => XS.iloadN X0.here hx rfl (hb hby d11_33) rfl k) ?_
  refine oS (B := s₁.setTop (mkF m 37 #[iv 5, iv 31] [(.int 256), (.int 5)])) (fun t k => XS.sipush X0.here hx rfl (hb hby d11_34) k) ?_
  refine oS (B := s₁.setTop (mkF m 48 #[iv 5, iv 31] [])) (fun t k => XS.icmpYes X0.here hx rfl (pc0 := 37) (pc' := 48) rfl (hb hby d11_37) rfl (tlt (by decide)).1 (by decide) (by decide) k) ?_
  refine oS (B := s₁.setTop (mkF m 49 #[iv 5, iv 31] [(.int 5)])) (fun t k => XS.iloadN X0.here hx rfl (hb hby d11_48) rfl k) ?_
  refine oS (B := s₁.setTop (mkF m 51 #[iv 5, iv 31] [(.int 16), (.int 5)])) (fun t k => XS.bipush X0.here hx rfl (hb hby d11_49) k) ?_
  refine oS (B := s₁.setTop (mkF m 61 #[iv 5, iv 31] [])) (fun t k => XS.icmpYes X0.here hx rfl (pc0 := 51) (pc' := 61) rfl (hb hby d11_51) rfl (tlt (by decide)).1 (by decide) (by decide) k) ?_
  refine oS (B := s₁.setTop (mkF m 62 #[iv 5, iv 31] [(.int 5)])) (fun t k => XS.iloadN X0.here hx rfl (hb hby d11_61) rfl k) ?_
  refine oS (B := s₁.setTop (mkF m 63 #[iv 5, iv 31] [(.int 4), (.int 5)])) (fun t k => XS.iconst X0.here hx rfl (hb hby d11_62) k) ?_
  refine oS (B := s₁.setTop (mkF m 66 #[iv 5, iv 31] [])) (fun t k => XS.icmpNo X0.here hx rfl (hb hby d11_63) rfl (flt (by decide)).1 k) ?_
  refine oS (B := s₁.setTop (mkF m 69 #[iv 5, iv 29] [])) (fun t k => XS.iinc X0.here hx rfl (hb hby d11_66) rfl (l' := #[iv 5, iv 29]) rfl k) ?_
  refine oS (B := s₁.setTop (mkF m 70 #[iv 5, iv 29] [(.int 5)])) (fun t k => XS.iloadN X0.here hx rfl (hb hby d11_69) rfl k) ?_
  refine oS (B := s₁.setTop (mkF m 71 #[iv 5, iv 29] [(.int 2), (.int 5)])) (fun t k => XS.iconst X0.here hx rfl (hb hby d11_70) k) ?_
  refine oS (B := s₁.setTop (mkF m 72 #[iv 5, iv 29] [(.int 1)])) (fun t k => XS.iushr X0.here hx rfl (hb hby d11_71) rfl k) ?_
  refine oS (B := s₁.setTop (mkF m 73 #[iv 1, iv 29] [])) (fun t k => XS.istoreN X0.here hx rfl (hb hby d11_72) rfl (l' := #[iv 1, iv 29]) rfl k) ?_
  refine oS (B := s₁.setTop (mkF m 74 #[iv 1, iv 29] [(.int 29)])) (fun t k => XS.iloadN X0.here hx rfl (hb hby d11_73) rfl k) ?_
  refine oS (B := s₁.setTop (mkF m 75 #[iv 1, iv 29] [(.int 1), (.int 29)])) (fun t k => XS.iloadN X0.here hx rfl (hb hby d11_74) rfl k) ?_
  refine oS (B := s₁.setTop (mkF m 76 #[iv 1, iv 29] [(.int 1), (.int 1), (.int 29)])) (fun t k => XS.iconst X0.here hx rfl (hb hby d11_75) k) ?_
  refine oS (B := s₁.setTop (mkF m 77 #[iv 1, iv 29] [(.int 0), (.int 29)])) (fun t k => XS.iushr X0.here hx rfl (hb hby d11_76) rfl k) ?_
  refine oS (B := s₁.setTop (mkF m 78 #[iv 1, iv 29] [(.int 29)])) (fun t k => XS.isub X0.here hx rfl (hb hby d11_77) rfl k) ?_
  exact own_retI X0 hx hlk Bd.returns (hb hby d11_78) (by decide) (by decide) (by exact ⟨rfl, N0, e0⟩)
theorem ef_rm10_6 (m : MethodId) (x0 : Int32) : entryFrame m #[(.int x0)] 1 = mkF m 0 #[iv x0] [] := by first | (simp [entryFrame, mkF, argsToLocals, Value.category]; done) | rfl
def QQ_rm10_6 (Z : State)   (h0 : Heap) (n0 : Nat) (v : Option Value) (h : Heap) (L : List Loc) : Prop := v = some (.int 4) ∧ Fr n0 L ∧ h = h0
set_option maxRecDepth 65536 in
set_option maxHeartbeats 40000000 in
theorem rm10_6 (l : Launch) (Z : State) (a0 : Array Value) (hw : ∀ d ∈ tables_1, d.before a0 Z = true) (ws : List Jvm.Cond)   (h0 : Heap) (n0 : Nat) (Z0 : n0 ≤ h0.size)  :
    MetFree l (⟨"java/lang/Integer", "highestOneBit", "(I)I"⟩ : MethodName) (head1 (Jvm.Cond.code (⟨"java/lang/Integer", "highestOneBit", "(I)I"⟩ : MethodName) jdk_33_method_45_code 1 (some .int) :: ws) ({ frames := 1, cells := 0, slots := 0, locals := 15 } : Room)) (fun a U => a = #[(.int 5)] ∧ Z.Warmed39 U.vm ∧ U.heap = h0) (fun _ _ _ _ _ => True) (fun _ U o U' => ∃ v L, o = .returned v ∧ (QQ_rm10_6 Z  h0 n0) v U'.heap L ∧ FrameEnd U o U' L ({ frames := 1, cells := 0, slots := 0, locals := 15 } : Room).cells ({ frames := 1, cells := 0, slots := 0, locals := 15 } : Room).slots) := by
  refine MetFree.of_bodySF (plainFor_of_name pn_java_lang_Integer) hisR ?_
  intro p e s m args below meth c s₁ Bd hml0 hP hK
  obtain ⟨rfl, hZ, hh⟩ := hP
  have hx := Bd.exec
  have hby := Bd.bytes
  have hlk : meth.locks = false := BodyLoose.notSynchronized Bd
  have hml : c.maxLocals = 1 := hml0
  have hown : s.vm.findClass "java/lang/Integer" = some m.cls := findClass_of_methodNamed Bd.named
  have hnm := (name_of_methodNamed Bd.named Bd.method).1
  have X0 : Stand p l e ({ frames := 1, cells := 0, slots := 0, locals := 15 } : Room) s m #[(.int 5)] below meth c s₁ [] 0 0 := Stand.of_body Bd
  have e0 : s₁.heap = h0 := by rw [← hh, Bd.state]; rfl
  have N0 := Fr.nil n0
  show own_G p.tables e below s (QQ_rm10_6 Z  h0 n0) ({ frames := 1, cells := 0, slots := 0, locals := 15 } : Room).cells ({ frames := 1, cells := 0, slots := 0, locals := 15 } : Room).slots (s₁.setTop (entryFrame m #[(.int 5)] 1))
  refine oS (B := s₁.setTop (mkF m 0 #[iv 5] [])) (fun t k => castTop (ef_rm10_6 m (5 : Int32)) k) ?_
  refine oS (B := s₁.setTop (mkF m 1 #[iv 5] [(.int 5)])) (fun t k => XS.iloadN X0.here hx rfl (hb hby d10_0) rfl k) ?_
  refine oS (B := s₁.setTop (mkF m 3 #[iv 5] [(.int (-2147483648 : Int32)), (.int 5)])) (fun t k => X0.ldcInt hx hown (mvT hZ (ow hw 66 rfl)) (g := (mkF m 1 #[iv 5] [(.int 5)])) rfl (hb hby d10_1) t k) ?_
  refine oS (B := s₁.setTop (mkF m 4 #[iv 5] [(.int 5), (.int (-2147483648 : Int32)), (.int 5)])) (fun t k => XS.iloadN X0.here hx rfl (hb hby d10_3) rfl k) ?_
  obtain ⟨_, _, ⟨T1, L1, k1, n1⟩, -, X1, ⟨Lc1, hQ1, l1, y1, z1⟩, st1⟩ := Jvm.LawKit.callS X0 hx (y := (⟨"java/lang/Integer", "numberOfLeadingZeros", "(I)I"⟩ : MethodName)) hown (mvT hZ (ow hw 67 rfl)) (mvT hZ (ow hw 68 rfl)) (mvT hZ (ow hw 64 rfl)) (mvT hZ (ow hw 69 rfl)) (by decide) (backOf (W := 2) (rm11_6 l Z a0 hw []   h0 n0 Z0 ) hZ (ow hw 69 rfl) (ow hw 64 rfl) (by decide) (by decide)) (g := (mkF m 4 #[iv 5] [(.int 5), (.int (-2147483648 : Int32)), (.int 5)])) rfl (by rw [hml]; rfl) (argsL := [(.int 5)]) (rest := [(.int (-2147483648 : Int32)), (.int 5)]) (lenOf pd_0 rfl) rfl (by show 2 * 0 + _ ≤ _; exact Nat.le_of_eq rfl) (hb hby d10_4) (fun _ _ => ⟨rfl, e0, (by decide : 0 + 0 ≤ _), (by decide : 0 + 0 ≤ _)⟩)
  dsimp only [Pt.U, Pt.locs, Pt.cells, Pt.slots] at X1 l1 y1 z1 st1 hQ1
  subst l1 y1 z1
  obtain ⟨rfl, N1q, e1⟩ := hQ1
  have N0 := Fr.app N0 N1q
  refine oS (B := T1.setTop (mkF m 7 #[iv 5] [(.int 29), (.int (-2147483648 : Int32)), (.int 5)])) (fun t k => st1 t k) ?_
  refine oS (B := T1.setTop (mkF m 8 #[iv 5] [(.int 4), (.int 5)])) (fun t k => XS.iushr X1.here hx rfl (hb hby d10_7) rfl k) ?_
  refine oS (B := T1.setTop (mkF m 9 #[iv 5] [(.int 4)])) (fun t k => XS.iand X1.here hx rfl (hb hby d10_8) rfl k) ?_
  exact own_retI X1 hx hlk Bd.returns (hb hby d10_9) (by decide) (by decide) (by exact ⟨rfl, N0, e1⟩)
theorem ef_rm9_6 (m : MethodId) (x0 : Int32) : entryFrame m #[(.int x0)] 1 = mkF m 0 #[iv x0] [] := by first | (simp [entryFrame, mkF, argsToLocals, Value.category]; done) | rfl
def QQ_rm9_6 (Z : State)   (h0 : Heap) (n0 : Nat) (v : Option Value) (h : Heap) (L : List Loc) : Prop := v = some (.int 8) ∧ Fr n0 L ∧ h = h0
set_option maxRecDepth 65536 in
set_option maxHeartbeats 40000000 in
theorem rm9_6 (l : Launch) (Z : State) (a0 : Array Value) (hw : ∀ d ∈ tables_1, d.before a0 Z = true) (ws : List Jvm.Cond)   (h0 : Heap) (n0 : Nat) (Z0 : n0 ≤ h0.size)  :
    MetFree l (⟨"com/example/loomwire/loomwire/transport/MessageBuffer", "chunkCapacity", "(I)I"⟩ : MethodName) (head1 (Jvm.Cond.code (⟨"com/example/loomwire/loomwire/transport/MessageBuffer", "chunkCapacity", "(I)I"⟩ : MethodName) prog_102_method_7_code 1 (some .int) :: ws) ({ frames := 2, cells := 0, slots := 0, locals := 27 } : Room)) (fun a U => a = #[(.int 6)] ∧ Z.Warmed39 U.vm ∧ U.heap = h0) (fun _ _ _ _ _ => True) (fun _ U o U' => ∃ v L, o = .returned v ∧ (QQ_rm9_6 Z  h0 n0) v U'.heap L ∧ FrameEnd U o U' L ({ frames := 2, cells := 0, slots := 0, locals := 27 } : Room).cells ({ frames := 2, cells := 0, slots := 0, locals := 27 } : Room).slots) := by
  refine MetFree.of_bodySF (plainFor_of_name pn_com_example_loomwire_loomwire_transport_MessageBuffer) hisR ?_
  intro p e s m args below meth c s₁ Bd hml0 hP hK
  obtain ⟨rfl, hZ, hh⟩ := hP
  have hx := Bd.exec
  have hby := Bd.bytes
  have hlk : meth.locks = false := BodyLoose.notSynchronized Bd
  have hml : c.maxLocals = 1 := hml0
  have hown : s.vm.findClass "com/example/loomwire/loomwire/transport/MessageBuffer" = some m.cls := findClass_of_methodNamed Bd.named
  have hnm := (name_of_methodNamed Bd.named Bd.method).1
  have X0 : Stand p l e ({ frames := 2, cells := 0, slots := 0, locals := 27 } : Room) s m #[(.int 6)] below meth c s₁ [] 0 0 := Stand.of_body Bd
  have e0 : s₁.heap = h0 := by rw [← hh, Bd.state]; rfl
  have N0 := Fr.nil n0
  show own_G p.tables e below s (QQ_rm9_6 Z  h0 n0) ({ frames := 2, cells := 0, slots := 0, locals := 27 } : Room).cells ({ frames := 2, cells := 0, slots := 0, locals := 27 } : Room).slots (s₁.setTop (entryFrame m #[(.int 6)] 1))
  refine oS (B := s₁.setTop (mkF m 0 #[iv 6] [])) (fun t k => castTop (ef_rm9_6 m (6 : Int32)) k) ?_
  refine oS (B := s₁.setTop (mkF m 1 #[iv 6] [(.int 6)])) (fun t k => XS.iloadN X0.here hx rfl (hb hby d9_0) rfl k) ?_
  refine oS (B := s₁.setTop (mkF m 2 #[iv 6] [(.int 1), (.int 6)])) (fun t k => XS.iconst X0.here hx rfl (hb hby d9_1) k) ?_
  refine oS (B := s₁.setTop (mkF m 9 #[iv 6] [])) (fun t k => XS.icmpYes X0.here hx rfl (pc0 := 2) (pc' := 9) rfl (hb hby d9_2) rfl (tlt (by decide)).2.2.1 (by decide) (by decide) k) ?_
  refine oS (B := s₁.setTop (mkF m 10 #[iv 6] [(.int 6)])) (fun t k => XS.iloadN X0.here hx rfl (hb hby d9_9) rfl k) ?_
  refine oS (B := s₁.setTop (mkF m 11 #[iv 6] [(.int 1), (.int 6)])) (fun t k => XS.iconst X0.here hx rfl (hb hby d9_10) k) ?_
  refine oS (B := s₁.setTop (mkF m 12 #[iv 6] [(.int 5)])) (fun t k => XS.isub X0.here hx rfl (hb hby d9_11) rfl k) ?_
  obtain ⟨_, _, ⟨T1, L1, k1, n1⟩, -, X1, ⟨Lc1, hQ1, l1, y1, z1⟩, st1⟩ := Jvm.LawKit.callS X0 hx (y := (⟨"java/lang/Integer", "highestOneBit", "(I)I"⟩ : MethodName)) hown (mvT hZ (ow hw 62 rfl)) (mvT hZ (ow hw 63 rfl)) (mvT hZ (ow hw 64 rfl)) (mvT hZ (ow hw 65 rfl)) (by decide) (backOf (W := 0) (rm10_6 l Z a0 hw []   h0 n0 Z0 ) hZ (ow hw 65 rfl) (ow hw 64 rfl) (by decide) (by decide)) (g := (mkF m 12 #[iv 6] [(.int 5)])) rfl (by rw [hml]; rfl) (argsL := [(.int 5)]) (rest := []) (lenOf pd_0 rfl) rfl (by show 2 * 0 + _ ≤ _; exact Nat.le_of_eq rfl) (hb hby d9_12) (fun _ _ => ⟨rfl, e0, (by decide : 0 + 0 ≤ _), (by decide : 0 + 0 ≤ _)⟩)
  dsimp only [Pt.U, Pt.locs, Pt.cells, Pt.slots] at X1 l1 y1 z1 st1 hQ1
  subst l1 y1 z1
  obtain ⟨rfl, N1q, e1⟩ := hQ1
  have N0 := Fr.app N0 N1q
  refine oS (B := T1.setTop (mkF m 15 #[iv 6] [(.int 4)])) (fun t k => st1 t k) ?_
  refine oS (B := T1.setTop (mkF m 16 #[iv 6] [(.int 1), (.int 4)])) (fun t k => XS.iconst X1.here hx rfl (hb hby d9_15) k) ?_
  refine oS (B := T1.setTop (mkF m 17 #[iv 6] [(.int 8)])) (fun t k => XS.ishl X1.here hx rfl (hb hby d9_16) rfl k) ?_
  exact own_retI X1 hx hlk Bd.returns (hb hby d9_17) (by decide) (by decide) (by exact ⟨rfl, N0, e1⟩)
theorem ef_rm11_7 (m : MethodId) (x0 : Int32) : entryFrame m #[(.int x0)] 2 = mkF m 0 #[iv x0, .unset] [] := by first | (simp [entryFrame, mkF, argsToLocals, Value.category]; done) | rfl
def QQ_rm11_7 (Z : State)   (h0 : Heap) (n0 : Nat) (v : Option Value) (h : Heap) (L : List Loc) : Prop := v = some (.int 29) ∧ Fr n0 L ∧ h = h0
set_option maxRecDepth 65536 in
set_option maxHeartbeats 40000000 in
theorem rm11_7 (l : Launch) (Z : State) (a0 : Array Value) (hw : ∀ d ∈ tables_1, d.before a0 Z = true) (ws : List Jvm.Cond)   (h0 : Heap) (n0 : Nat) (Z0 : n0 ≤ h0.size)  :
    MetFree l (⟨"java/lang/Integer", "numberOfLeadingZeros", "(I)I"⟩ : MethodName) (head1 (Jvm.Cond.code (⟨"java/lang/Integer", "numberOfLeadingZeros", "(I)I"⟩ : MethodName) jdk_33_method_47_code 2 (some .int) :: ws) ({ frames := 0, cells := 0, slots := 0, locals := 0 } : Room)) (fun a U => a = #[(.int 6)] ∧ Z.Warmed39 U.vm ∧ U.heap = h0) (fun _ _ _ _ _ => True) (fun _ U o U' => ∃ v L, o = .returned v ∧ (QQ_rm11_7 Z  h0 n0) v U'.heap L ∧ FrameEnd U o U' L ({ frames := 0, cells := 0, slots := 0, locals := 0 } : Room).cells ({ frames := 0, cells := 0, slots := 0, locals := 0 } : Room).slots) := by
  refine MetFree.of_bodySF (plainFor_of_name pn_java_lang_Integer) hisR ?_
  intro p e s m args below meth c s₁ Bd hml0 hP hK
  obtain ⟨rfl, hZ, hh⟩ := hP
  have hx := Bd.exec
  have hby := Bd.bytes
  have hlk : meth.locks = false := BodyLoose.notSynchronized Bd
  have hml : c.maxLocals = 2 := hml0
  have hown : s.vm.findClass "java/lang/Integer" = some m.cls := findClass_of_methodNamed Bd.named
  have hnm := (name_of_methodNamed Bd.named Bd.method).1
  have X0 : Stand p l e ({ frames := 0, cells := 0, slots := 0, locals := 0 } : Room) s m #[(.int 6)] below meth c s₁ [] 0 0 := Stand.of_body Bd
  have e0 : s₁.heap = h0 := by rw [← hh, Bd.state]; rfl
  have N0 := Fr.nil n0
  show own_G p.tables e below s (QQ_rm11_7 Z  h0 n0) ({ frames := 0, cells := 0, slots := 0, locals := 0 } : Room).cells ({ frames := 0, cells := 0, slots := 0, locals := 0 } : Room).slots (s₁.setTop (entryFrame m #[(.int 6)] 2))
  refine oS (B := s₁.setTop (mkF m 0 #[iv 6, .unset] [])) (fun t k => castTop (ef_rm11_7 m (6 : Int32)) k) ?_
  refine oS (B := s₁.setTop (mkF m 1 #[iv 6, .unset] [(.int 6)])) (fun t k => XS.iloadN X0.here hx rfl (hb hby d11_0) rfl k) ?_
  refine oS (B := s₁.setTop (mkF m 15 #[iv 6, .unset] [])) (fun t k => XS.ifYes X0.here hx rfl (pc0 := 1) (pc' := 15) rfl (hb hby d11_1) rfl ((if0 _ _).trans (tlt (by decide)).2.2.1) (by decide) (by decide) k) ?_
  refine oS (B := s₁.setTop (mkF m 17 #[iv 6, .unset] [(.int 31)])) (fun t k => XS.bipush X0.here hx rfl (hb hby d11_15) k) ?_
  refine oS (B := s₁.setTop (mkF m 18 #[iv 6, iv 31] [])) (fun t k => XS.istoreN X0.here hx rfl (hb hby d11_17) rfl (l' := #[iv 6, iv 31]) rfl k) ?_
  refine oS (B := s₁.setTop (mkF m 19 #[iv 6, iv 31] [(.int 6)])) (fun t k => XS.iloadN X0.here hx rfl (hb hby d11_18) rfl k) ?_
  refine oS (B := s₁.setTop (mkF m 22 #[iv 6, iv 31] [(.int 65536), (.int 6)])) (fun t k => X0.ldcWInt hx hown (mvT hZ (ow hw 70 rfl)) (g := (mkF m 19 #[iv 6, iv 31] [(.int 6)])) rfl (hb hby d11_19) t k) ?_
  refine oS (B := s₁.setTop (mkF m 33 #[iv 6, iv 31] [])) (fun t k => XS.icmpYes X0.here hx rfl (pc0 := 22) (pc' := 33) rfl (hb hby d11_22) rfl (tlt (by decide)).1 (by decide) (by decide) k) ?_
  refine oS (B := s₁.setTop (mkF m 34 #[iv 6, iv 31] [(.int 6)])) (fun t k => XS.iloadN X0.here hx rfl (hb hby d11_33) rfl k) ?_
  refine oS (B := s₁.setTop (mkF m 37 #[iv 6, iv 31] [(.int 256), (.int 6)])) (fun t k => XS.sipush X0.here hx rfl (hb hby d11_34) k) ?_
  refine oS (B := s₁.setTop (mkF m 48 #[iv 6, iv 31] [])) (fun t k => XS.icmpYes X0.here hx rfl (pc0 := 37) (pc' := 48) rfl (hb hby d11_37) rfl (tlt (by decide)).1 (by decide) (by decide) k) ?_
  refine oS (B := s₁.setTop (mkF m 49 #[iv 6, iv 31] [(.int 6)])) (fun t k => XS.iloadN X0.here hx rfl (hb hby d11_48) rfl k) ?_
  refine oS (B := s₁.setTop (mkF m 51 #[iv 6, iv 31] [(.int 16), (.int 6)])) (fun t k => XS.bipush X0.here hx rfl (hb hby d11_49) k) ?_
  refine oS (B := s₁.setTop (mkF m 61 #[iv 6, iv 31] [])) (fun t k => XS.icmpYes X0.here hx rfl (pc0 := 51) (pc' := 61) rfl (hb hby d11_51) rfl (tlt (by decide)).1 (by decide) (by decide) k) ?_
  refine oS (B := s₁.setTop (mkF m 62 #[iv 6, iv 31] [(.int 6)])) (fun t k => XS.iloadN X0.here hx rfl (hb hby d11_61) rfl k) ?_
  refine oS (B := s₁.setTop (mkF m 63 #[iv 6, iv 31] [(.int 4), (.int 6)])) (fun t k => XS.iconst X0.here hx rfl (hb hby d11_62) k) ?_
  refine oS (B := s₁.setTop (mkF m 66 #[iv 6, iv 31] [])) (fun t k => XS.icmpNo X0.here hx rfl (hb hby d11_63) rfl (flt (by decide)).1 k) ?_
  refine oS (B := s₁.setTop (mkF m 69 #[iv 6, iv 29] [])) (fun t k => XS.iinc X0.here hx rfl (hb hby d11_66) rfl (l' := #[iv 6, iv 29]) rfl k) ?_
  refine oS (B := s₁.setTop (mkF m 70 #[iv 6, iv 29] [(.int 6)])) (fun t k => XS.iloadN X0.here hx rfl (hb hby d11_69) rfl k) ?_
  refine oS (B := s₁.setTop (mkF m 71 #[iv 6, iv 29] [(.int 2), (.int 6)])) (fun t k => XS.iconst X0.here hx rfl (hb hby d11_70) k) ?_
  refine oS (B := s₁.setTop (mkF m 72 #[iv 6, iv 29] [(.int 1)])) (fun t k => XS.iushr X0.here hx rfl (hb hby d11_71) rfl k) ?_
  refine oS (B := s₁.setTop (mkF m 73 #[iv 1, iv 29] [])) (fun t k => XS.istoreN X0.here hx rfl (hb hby d11_72) rfl (l' := #[iv 1, iv 29]) rfl k) ?_
  refine oS (B := s₁.setTop (mkF m 74 #[iv 1, iv 29] [(.int 29)])) (fun t k => XS.iloadN X0.here hx rfl (hb hby d11_73) rfl k) ?_
  refine oS (B := s₁.setTop (mkF m 75 #[iv 1, iv 29] [(.int 1), (.int 29)])) (fun t k => XS.iloadN X0.here hx rfl (hb hby d11_74) rfl k) ?_
  refine oS (B := s₁.setTop (mkF m 76 #[iv 1, iv 29] [(.int 1), (.int 1), (.int 29)])) (fun t k => XS.iconst X0.here hx rfl (hb hby d11_75) k) ?_
  refine oS (B := s₁.setTop (mkF m 77 #[iv 1, iv 29] [(.int 0), (.int 29)])) (fun t k => XS.iushr X0.here hx rfl (hb hby d11_76) rfl k) ?_
  refine oS (B := s₁.setTop (mkF m 78 #[iv 1, iv 29] [(.int 29)])) (fun t k => XS.isub X0.here hx rfl (hb hby d11_77) rfl k) ?_
  exact own_retI X0 hx hlk Bd.returns (hb hby d11_78) (by decide) (by decide) (by exact ⟨rfl, N0, e0⟩)
theorem ef_rm10_7 (m : MethodId) (x0 : Int32) : entryFrame m #[(.int x0)] 1 = mkF m 0 #[iv x0] [] := by first | (simp [entryFrame, mkF, argsToLocals, Value.category]; done) | rfl
def QQ_rm10_7 (Z : State)   (h0 : Heap) (n0 : Nat) (v : Option Value) (h : Heap) (L : List Loc) : Prop := v = some (.int 4) ∧ Fr n0 L ∧ h = h0
set_option maxRecDepth 65536 in
set_option maxHeartbeats 40000000 in
theorem rm10_7 (l : Launch) (Z : State) (a0 : Array Value) (hw : ∀ d ∈ tables_1, d.before a0 Z = true) (ws : List Jvm.Cond)   (h0 : Heap) (n0 : Nat) (Z0 : n0 ≤ h0.size)  :
    MetFree l (⟨"java/lang/Integer", "highestOneBit", "(I)I"⟩ : MethodName) (head1 (Jvm.Cond.code (⟨"java/lang/Integer", "highestOneBit", "(I)I"⟩ : MethodName) jdk_33_method_45_code 1 (some .int) :: ws) ({ frames := 1, cells := 0, slots := 0, locals := 15 } : Room)) (fun a U => a = #[(.int 6)] ∧ Z.Warmed39 U.vm ∧ U.heap = h0) (fun _ _ _ _ _ => True) (fun _ U o U' => ∃ v L, o = .returned v ∧ (QQ_rm10_7 Z  h0 n0) v U'.heap L ∧ FrameEnd U o U' L ({ frames := 1, cells := 0, slots := 0, locals := 15 } : Room).cells ({ frames := 1, cells := 0, slots := 0, locals := 15 } : Room).slots) := by
  refine MetFree.of_bodySF (plainFor_of_name pn_java_lang_Integer) hisR ?_
  intro p e s m args below meth c s₁ Bd hml0 hP hK
  obtain ⟨rfl, hZ, hh⟩ := hP
  have hx := Bd.exec
  have hby := Bd.bytes
  have hlk : meth.locks = false := BodyLoose.notSynchronized Bd
  have hml : c.maxLocals = 1 := hml0
  have hown : s.vm.findClass "java/lang/Integer" = some m.cls := findClass_of_methodNamed Bd.named
  have hnm := (name_of_methodNamed Bd.named Bd.method).1
  have X0 : Stand p l e ({ frames := 1, cells := 0, slots := 0, locals := 15 } : Room) s m #[(.int 6)] below meth c s₁ [] 0 0 := Stand.of_body Bd
  have e0 : s₁.heap = h0 := by rw [← hh, Bd.state]; rfl
  have N0 := Fr.nil n0
  show own_G p.tables e below s (QQ_rm10_7 Z  h0 n0) ({ frames := 1, cells := 0, slots := 0, locals := 15 } : Room).cells ({ frames := 1, cells := 0, slots := 0, locals := 15 } : Room).slots (s₁.setTop (entryFrame m #[(.int 6)] 1))
  refine oS (B := s₁.setTop (mkF m 0 #[iv 6] [])) (fun t k => castTop (ef_rm10_7 m (6 : Int32)) k) ?_
  refine oS (B := s₁.setTop (mkF m 1 #[iv 6] [(.int 6)])) (fun t k => XS.iloadN X0.here hx rfl (hb hby d10_0) rfl k) ?_
  refine oS (B := s₁.setTop (mkF m 3 #[iv 6] [(.int (-2147483648 : Int32)), (.int 6)])) (fun t k => X0.ldcInt hx hown (mvT hZ (ow hw 66 rfl)) (g := (mkF m 1 #[iv 6] [(.int 6)])) rfl (hb hby d10_1) t k) ?_
  refine oS (B := s₁.setTop (mkF m 4 #[iv 6] [(.int 6), (.int (-2147483648 : Int32)), (.int 6)])) (fun t k => XS.iloadN X0.here hx rfl (hb hby d10_3) rfl k) ?_
  obtain ⟨_, _, ⟨T1, L1, k1, n1⟩, -, X1, ⟨Lc1, hQ1, l1, y1, z1⟩, st1⟩ := Jvm.LawKit.callS X0 hx (y := (⟨"java/lang/Integer", "numberOfLeadingZeros", "(I)I"⟩ : MethodName)) hown (mvT hZ (ow hw 67 rfl)) (mvT hZ (ow hw 68 rfl)) (mvT hZ (ow hw 64 rfl)) (mvT hZ (ow hw 69 rfl)) (by decide) (backOf (W := 2) (rm11_7 l Z a0 hw []   h0 n0 Z0 ) hZ (ow hw 69 rfl) (ow hw 64 rfl) (by decide) (by decide)) (g := (mkF m 4 #[iv 6] [(.int 6), (.int (-2147483648 : Int32)), (.int 6)])) rfl (by rw [hml]; rfl) (argsL := [(.int 6)]) (rest := [(.int (-2147483648 : Int32)), (.int 6)]) (lenOf pd_0 rfl) rfl (by show 2 * 0 + _ ≤ _; exact Nat.le_of_eq rfl) (hb hby d10_4) (fun _ _ => ⟨rfl, e0, (by decide : 0 + 0 ≤ _), (by decide : 0 + 0 ≤ _)⟩)
  dsimp only [Pt.U, Pt.locs, Pt.cells, Pt.slots] at X1 l1 y1 z1 st1 hQ1
  subst l1 y1 z1
  obtain ⟨rfl, N1q, e1⟩ := hQ1
  have N0 := Fr.app N0 N1q
  refine oS (B := T1.setTop (mkF m 7 #[iv 6] [(.int 29), (.int (-2147483648 : Int32)), (.int 6)])) (fun t k => st1 t k) ?_
  refine oS (B := T1.setTop (mkF m 8 #[iv 6] [(.int 4), (.int 6)])) (fun t k => XS.iushr X1.here hx rfl (hb hby d10_7) rfl k) ?_
  refine oS (B := T1.setTop (mkF m 9 #[iv 6] [(.int 4)])) (fun t k => XS.iand X1.here hx rfl (hb hby d10_8) rfl k) ?_
  exact own_retI X1 hx hlk Bd.returns (hb hby d10_9) (by decide) (by decide) (by exact ⟨rfl, N0, e1⟩)
theorem ef_rm9_7 (m : MethodId) (x0 : Int32) : entryFrame m #[(.int x0)] 1 = mkF m 0 #[iv x0] [] := by first | (simp [entryFrame, mkF, argsToLocals, Value.category]; done) | rfl
def QQ_rm9_7 (Z : State)   (h0 : Heap) (n0 : Nat) (v : Option Value) (h : Heap) (L : List Loc) : Prop := v = some (.int 8) ∧ Fr n0 L ∧ h = h0
set_option maxRecDepth 65536 in
set_option maxHeartbeats 40000000 in
theorem rm9_7 (l : Launch) (Z : State) (a0 : Array Value) (hw : ∀ d ∈ tables_1, d.before a0 Z = true) (ws : List Jvm.Cond)   (h0 : Heap) (n0 : Nat) (Z0 : n0 ≤ h0.size)  :
    MetFree l (⟨"com/example/loomwire/loomwire/transport/MessageBuffer", "chunkCapacity", "(I)I"⟩ : MethodName) (head1 (Jvm.Cond.code (⟨"com/example/loomwire/loomwire/transport/MessageBuffer", "chunkCapacity", "(I)I"⟩ : MethodName) prog_102_method_7_code 1 (some .int) :: ws) ({ frames := 2, cells := 0, slots := 0, locals := 27 } : Room)) (fun a U => a = #[(.int 7)] ∧ Z.Warmed39 U.vm ∧ U.heap = h0) (fun _ _ _ _ _ => True) (fun _ U o U' => ∃ v L, o = .returned v ∧ (QQ_rm9_7 Z  h0 n0) v U'.heap L ∧ FrameEnd U o U' L ({ frames := 2, cells := 0, slots := 0, locals := 27 } : Room).cells ({ frames := 2, cells := 0, slots := 0, locals := 27 } : Room).slots) := by
  refine MetFree.of_bodySF (plainFor_of_name pn_com_example_loomwire_loomwire_transport_MessageBuffer) hisR ?_
  intro p e s m args below meth c s₁ Bd hml0 hP hK
  obtain ⟨rfl, hZ, hh⟩ := hP
  have hx := Bd.exec
  have hby := Bd.bytes
  have hlk : meth.locks = false := BodyLoose.notSynchronized Bd
  have hml : c.maxLocals = 1 := hml0
  have hown : s.vm.findClass "com/example/loomwire/loomwire/transport/MessageBuffer" = some m.cls := findClass_of_methodNamed Bd.named
  have hnm := (name_of_methodNamed Bd.named Bd.method).1
  have X0 : Stand p l e ({ frames := 2, cells := 0, slots := 0, locals := 27 } : Room) s m #[(.int 7)] below meth c s₁ [] 0 0 := Stand.of_body Bd
  have e0 : s₁.heap = h0 := by rw [← hh, Bd.state]; rfl
  have N0 := Fr.nil n0
  show own_G p.tables e below s (QQ_rm9_7 Z  h0 n0) ({ frames := 2, cells := 0, slots := 0, locals := 27 } : Room).cells ({ frames := 2, cells := 0, slots := 0, locals := 27 } : Room).slots (s₁.setTop (entryFrame m #[(.int 7)] 1))
  refine oS (B := s₁.setTop (mkF m 0 #[iv 7] [])) (fun t k => castTop (ef_rm9_7 m (7 : Int32)) k) ?_
  refine oS (B := s₁.setTop (mkF m 1 #[iv 7] [(.int 7)])) (fun t k => XS.iloadN X0.here hx rfl (hb hby d9_0) rfl k) ?_
  refine oS (B := s₁.setTop (mkF m 2 #[iv 7] [(.int 1), (.int 7)])) (fun t k => XS.iconst X0.here hx rfl (hb hby d9_1) k) ?_
  refine oS (B := s₁.setTop (mkF m 9 #[iv 7] [])) (fun t k => XS.icmpYes X0.here hx rfl (pc0 := 2) (pc' := 9) rfl (hb hby d9_2) rfl (tlt (by decide)).2.2.1 (by decide) (by decide) k) ?_
  refine oS (B := s₁.setTop (mkF m 10 #[iv 7] [(.int 7)])) (fun t k => XS.iloadN X0.here hx rfl (hb hby d9_9) rfl k) ?_
  refine oS (B := s₁.setTop (mkF m 11 #[iv 7] [(.int 1), (.int 7)])) (fun t k => XS.iconst X0.here hx rfl (hb hby d9_10) k) ?_
  refine oS (B := s₁.setTop (mkF m 12 #[iv 7] [(.int 6)])) (fun t k => XS.isub X0.here hx rfl (hb hby d9_11) rfl k) ?_
  obtain ⟨_, _, ⟨T1, L1, k1, n1⟩, -, X1, ⟨Lc1, hQ1, l1, y1, z1⟩, st1⟩ := Jvm.LawKit.callS X0 hx (y := (⟨"java/lang/Integer", "highestOneBit", "(I)I"⟩ : MethodName)) hown (mvT hZ (ow hw 62 rfl)) (mvT hZ (ow hw 63 rfl)) (mvT hZ (ow hw 64 rfl)) (mvT hZ (ow hw 65 rfl)) (by decide) (backOf (W := 0) (rm10_7 l Z a0 hw []   h0 n0 Z0 ) hZ (ow hw 65 rfl) (ow hw 64 rfl) (by decide) (by decide)) (g := (mkF m 12 #[iv 7] [(.int 6)])) rfl (by rw [hml]; rfl) (argsL := [(.int 6)]) (rest := []) (lenOf pd_0 rfl) rfl (by show 2 * 0 + _ ≤ _; exact Nat.le_of_eq rfl) (hb hby d9_12) (fun _ _ => ⟨rfl, e0, (by decide : 0 + 0 ≤ _), (by decide : 0 + 0 ≤ _)⟩)
  dsimp only [Pt.U, Pt.locs, Pt.cells, Pt.slots] at X1 l1 y1 z1 st1 hQ1
  subst l1 y1 z1
  obtain ⟨rfl, N1q, e1⟩ := hQ1
  have N0 := Fr.app N0 N1q
  refine oS (B := T1.setTop (mkF m 15 #[iv 7] [(.int 4)])) (fun t k => st1 t k) ?_
  refine oS (B := T1.setTop (mkF m 16 #[iv 7] [(.int 1), (.int 4)])) (fun t k => XS.iconst X1.here hx rfl (hb hby d9_15) k) ?_
  refine oS (B := T1.setTop (mkF m 17 #[iv 7] [(.int 8)])) (fun t k => XS.ishl X1.here hx rfl (hb hby d9_16) rfl k) ?_
  exact own_retI X1 hx hlk Bd.returns (hb hby d9_17) (by decide) (by decide) (by exact ⟨rfl, N0, e1⟩)
theorem d11_40 : decode jdk_33_method_47_code 40 = .ok (.iinc 1 (-8), 3) := by decide +kernel
theorem d11_43 : decode jdk_33_method_47_code 43 = .ok (.iload_n 0, 1) := by decide +kernel
theorem d11_44 : decode jdk_33_method_47_code 44 = .ok (.bipush 8, 2) := by decide +kernel
theorem d11_46 : decode jdk_33_method_47_code 46 = .ok (.iushr, 1) := by decide +kernel
theorem d11_47 : decode jdk_33_method_47_code 47 = .ok (.istore_n 0, 1) := by decide +kernel
theorem d11_54 : decode jdk_33_method_47_code 54 = .ok (.iinc 1 (-4), 3) := by decide +kernel
theorem d11_57 : decode jdk_33_method_47_code 57 = .ok (.iload_n 0, 1) := by decide +kernel
theorem d11_58 : decode jdk_33_method_47_code 58 = .ok (.iconst 4, 1) := by decide +kernel
theorem d11_59 : decode jdk_33_method_47_code 59 = .ok (.iushr, 1) := by decide +kernel
theorem d11_60 : decode jdk_33_method_47_code 60 = .ok (.istore_n 0, 1) := by decide +kernel
theorem ef_rm11_65536 (m : MethodId) (x0 : Int32) : entryFrame m #[(.int x0)] 2 = mkF m 0 #[iv x0, .unset] [] := by first | (simp [entryFrame, mkF, argsToLocals, Value.category]; done) | rfl
def QQ_rm11_65536 (Z : State)   (h0 : Heap) (n0 : Nat) (v : Option Value) (h : Heap) (L : List Loc) : Prop := v = some (.int 16) ∧ Fr n0 L ∧ h = h0
set_option maxRecDepth 65536 in
set_option maxHeartbeats 40000000 in
theorem rm11_65536 (l : Launch) (Z : State) (a0 : Array Value) (hw : ∀ d ∈ tables_1, d.before a0 Z = true) (ws : List Jvm.Cond)   (h0 : Heap) (n0 : Nat) (Z0 : n0 ≤ h0.size)  :
    MetFree l (⟨"java/lang/Integer", "numberOfLeadingZeros", "(I)I"⟩ : MethodName) (head1 (Jvm.Cond.code (⟨"java/lang/Integer", "numberOfLeadingZeros", "(I)I"⟩ : MethodName) jdk_33_method_47_code 2 (some .int) :: ws) ({ frames := 0, cells := 0, slots := 0, locals := 0 } : Room)) (fun a U => a = #[(.int 65535)] ∧ Z.Warmed39 U.vm ∧ U.heap = h0) (fun _ _ _ _ _ => True) (fun _ U o U' => ∃ v L, o = .returned v ∧ (QQ_rm11_65536 Z  h0 n0) v U'.heap L ∧ FrameEnd U o U' L ({ frames := 0, cells := 0, slots := 0, locals := 0 } : Room).cells ({ frames := 0, cells := 0, slots := 0, locals := 0 } : Room).slots) := by
  refine MetFree.of_bodySF (plainFor_of_name pn_java_lang_Integer) hisR ?_
  intro p e s m args below meth c s₁ Bd hml0 hP hK
  obtain ⟨rfl, hZ, hh⟩ := hP
  have hx := Bd.exec
  have hby := Bd.bytes
  have hlk : meth.locks = false := BodyLoose.notSynchronized Bd
  have hml : c.maxLocals = 2 := hml0
  have hown : s.vm.findClass "java/lang/Integer" = some m.cls := findClass_of_methodNamed Bd.named
  have hnm := (name_of_methodNamed Bd.named Bd.method).1
  have X0 : Stand p l e ({ frames := 0, cells := 0, slots := 0, locals := 0 } : Room) s m #[(.int 65535)] below meth c s₁ [] 0 0 := Stand.of_body Bd
  have e0 : s₁.heap = h0 := by rw [← hh, Bd.state]; rfl
  have N0 := Fr.nil n0
  show own_G p.tables e below s (QQ_rm11_65536 Z  h0 n0) ({ frames := 0, cells := 0, slots := 0, locals := 0 } : Room).cells ({ frames := 0, cells := 0, slots := 0, locals := 0 } : Room).slots (s₁.setTop (entryFrame m #[(.int 65535)] 2))
  refine oS (B := s₁.setTop (mkF m 0 #[iv 65535, .unset] [])) (fun t k => castTop (ef_rm11_65536 m (65535 : Int32)) k) ?_
  refine oS (B := s₁.setTop (mkF m 1 #[iv 65535, .unset] [(.int 65535)])) (fun t k => XS.iloadN X0.here hx rfl (hb hby d11_0) rfl k) ?_
  refine oS (B := s₁.setTop (mkF m 15 #[iv 65535, .unset] [])) (fun t k => XS.ifYes X0.here hx rfl (pc0 := 1) (pc' := 15) rfl (hb hby d11_1) rfl ((if0 _ _).trans (tlt (by decide)).2.2.1) (by decide) (by decide) k) ?_
  refine oS (B := s₁.setTop (mkF m 17 #[iv 65535, .unset] [(.int 31)])) (fun t k => XS.bipush X0.here hx rfl (hb hby d11_15) k) ?_
  refine oS (B := s₁.setTop (mkF m 18 #[iv 65535, iv 31] [])) (fun t k => XS.istoreN X0.here hx rfl (hb hby d11_17) rfl (l' := #[iv 65535, iv 31]) rfl k) ?_
  refine oS (B := s₁.setTop (mkF m 19 #[iv 65535, iv 31] [(.int 65535)])) (fun t k => XS.iloadN X0.here hx rfl (hb hby d11_18) rfl k) ?_
  refine oS (B := s₁.setTop (mkF m 22 #[iv 65535, iv 31] [(.int 65536), (.int 65535)])) (fun t k => X0.ldcWInt hx hown (mvT hZ (ow hw 70 rfl)) (g := (mkF m 19 #[iv 65535, iv 31] [(.int 65535)])) rfl (hb hby d11_19) t k) ?_
  refine oS (B := s₁.setTop (mkF m 33 #[iv 65535, iv 31] [])) (fun t k => XS.icmpYes X0.here hx rfl (pc0 := 22) (pc' := 33) rfl (hb hby d11_22) rfl (tlt (by decide)).1 (by decide) (by decide) k) ?_
  refine oS (B := s₁.setTop (mkF m 34 #[iv 65535, iv 31] [(.int 65535)])) (fun t k => XS.iloadN X0.here hx rfl (hb hby d11_33) rfl k) ?_
  refine oS (B := s₁.setTop (mkF m 37 #[iv 65535, iv 31] [(.int 256), (.int 65535)])) (fun t k => XS.sipush X0.here hx rfl (hb hby d11_34) k) ?_
  refine oS (B := s₁.setTop (mkF m 40 #[iv 65535, iv 31] [])) (fun t k => XS.icmpNo X0.here hx rfl (hb hby d11_37) rfl (flt (by decide)).1 k) ?_
  refine oS (B := s₁.setTop (mkF m 43 #[iv 65535, iv 23] [])) (fun t k => XS.iinc X0.here hx rfl (hb hby d11_40) rfl (l' := #[iv 65535, iv 23]) rfl k) ?_
  refine oS (B := s₁.setTop (mkF m 44 #[iv 65535, iv 23] [(.int 65535)])) (fun t k => XS.iloadN X0.here hx rfl (hb hby d11_43) rfl k) ?_
  refine oS (B := s₁.setTop (mkF m 46 #[iv 65535, iv 23] [(.int 8), (.int 65535)])) (fun t k => XS.bipush X0.here hx rfl (hb hby d11_44) k) ?_
  refine oS (B := s₁.setTop (mkF m 47 #[iv 65535, iv 23] [(.int 255)])) (fun t k => XS.iushr X0.here hx rfl (hb hby d11_46) rfl k) ?_
  refine oS (B := s₁.setTop (mkF m 48 #[iv 255, iv 23] [])) (fun t k => XS.istoreN X0.here hx rfl (hb hby d11_47) rfl (l' := #[iv 255, iv 23]) rfl k) ?_
  refine oS (B := s₁.setTop (mkF m 49 #[iv 255, iv 23] [(.int 255)])) (fun t k => XS.iloadN X0.here hx rfl (hb hby d11_48) rfl k) ?_
  refine oS (B := s₁.setTop (mkF m 51 #[iv 255, iv 23] [(.int 16), (.int 255)])) (fun t k => XS.bipush X0.here hx rfl (hb hby d11_49) k) ?_
  refine oS (B := s₁.setTop (mkF m 54 #[iv 255, iv 23] [])) (fun t k => XS.icmpNo X0.here hx rfl (hb hby d11_51) rfl (flt (by decide)).1 k) ?_
  refine oS (B := s₁.setTop (mkF m 57 #[iv 255, iv 19] [])) (fun t k => XS.iinc X0.here hx rfl (hb hby d11_54) rfl (l' := #[iv 255, iv 19]) rfl k) ?_
  refine oS (B := s₁.setTop (mkF m 58 #[iv 255, iv 19] [(.int 255)])) (fun t k => XS.iloadN X0.here hx rfl (hb hby d11_57) rfl k) ?_
  refine oS (B := s₁.setTop (mkF m 59 #[iv 255, iv 19] [(.int 4), (.int 255)])) (fun t k => XS.iconst X0.here hx rfl (hb hby d11_58) k) ?_
  refine oS (B := s₁.setTop (mkF m 60 #[iv 255, iv 19] [(.int 15)])) (fun t k => XS.iushr X0.here hx rfl (hb hby d11_59) rfl k) ?_
  refine oS (B := s₁.setTop (mkF m 61 #[iv 15, iv 19] [])) (fun t k => XS.istoreN X0.here hx rfl (hb hby d11_60) rfl (l' := #[iv 15, iv 19]) rfl k) ?_
  refine oS (B := s₁.setTop (mkF m 62 #[iv 15, iv 19] [(.int 15)])) (fun t k => XS.iloadN X0.here hx rfl (hb hby d11_61) rfl k) ?_
  refine oS (B := s₁.setTop (mkF m 63 #[iv 15, iv 19] [(.int 4), (.int 15)])) (fun t k => XS.iconst X0.here hx rfl (hb hby d11_62) k) ?_
  refine oS (B := s₁.setTop (mkF m 66 #[iv 15, iv 19] [])) (fun t k => XS.icmpNo X0.here hx rfl (hb hby d11_63) rfl (flt (by decide)).1 k) ?_
  refine oS (B := s₁.setTop (mkF m 69 #[iv 15, iv 17] [])) (fun t k => XS.iinc X0.here hx rfl (hb hby d11_66) rfl (l' := #[iv 15, iv 17]) rfl k) ?_
  refine oS (B := s₁.setTop (mkF m 70 #[iv 15, iv 17] [(.int 15)])) (fun t k => XS.iloadN X0.here hx rfl (hb hby d11_69) rfl k) ?_
  refine oS (B := s₁.setTop (mkF m 71 #[iv 15, iv 17] [(.int 2), (.int 15)])) (fun t k => XS.iconst X0.here hx rfl (hb hby d11_70) k) ?_
  refine oS (B := s₁.setTop (mkF m 72 #[iv 15, iv 17] [(.int 3)])) (fun t k => XS.iushr X0.here hx rfl (hb hby d11_71) rfl k) ?_
  refine oS (B := s₁.setTop (mkF m 73 #[iv 3, iv 17] [])) (fun t k => XS.istoreN X0.here hx rfl (hb hby d11_72) rfl (l' := #[iv 3, iv 17]) rfl k) ?_
  refine oS (B := s₁.setTop (mkF m 74 #[iv 3, iv 17] [(.int 17)])) (fun t k => XS.iloadN X0.here hx rfl (hb hby d11_73) rfl k) ?_
  refine oS (B := s₁.setTop (mkF m 75 #[iv 3, iv 17] [(.int 3), (.int 17)])) (fun t k => XS.iloadN X0.here hx rfl (hb hby d11_74) rfl k) ?_
  refine oS (B := s₁.setTop (mkF m 76 #[iv 3, iv 17] [(.int 1), (.int 3), (.int 17)])) (fun t k => XS.iconst X0.here hx rfl (hb hby d11_75) k) ?_
  refine oS (B := s₁.setTop (mkF m 77 #[iv 3, iv 17] [(.int 1), (.int 17)])) (fun t k => XS.iushr X0.here hx rfl (hb hby d11_76) rfl k) ?_
  refine oS (B := s₁.setTop (mkF m 78 #[iv 3, iv 17] [(.int 16)])) (fun t k => XS.isub X0.here hx rfl (hb hby d11_77) rfl k) ?_
  exact own_retI X0 hx hlk Bd.returns (hb hby d11_78) (by decide) (by decide) (by exact ⟨rfl, N0, e0⟩)
theorem ef_rm10_65536 (m : MethodId) (x0 : Int32) : entryFrame m #[(.int x0)] 1 = mkF m 0 #[iv x0] [] := by first | (simp [entryFrame, mkF, argsToLocals, Value.category]; done) | rfl
def QQ_rm10_65536 (Z : State)   (h0 : Heap) (n0 : Nat) (v : Option Value) (h : Heap) (L : List Loc) : Prop := v = some (.int 32768) ∧ Fr n0 L ∧ h = h0
set_option maxRecDepth 65536 in
set_option maxHeartbeats 40000000 in
theorem rm10_65536 (l : Launch) (Z : State) (a0 : Array Value) (hw : ∀ d ∈ tables_1, d.before a0 Z = true) (ws : List Jvm.Cond)   (h0 : Heap) (n0 : Nat) (Z0 : n0 ≤ h0.size)  :
    MetFree l (⟨"java/lang/Integer", "highestOneBit", "(I)I"⟩ : MethodName) (head1 (Jvm.Cond.code (⟨"java/lang/Integer", "highestOneBit", "(I)I"⟩ : MethodName) jdk_33_method_45_code 1 (some .int) :: ws) ({ frames := 1, cells := 0, slots := 0, locals := 15 } : Room)) (fun a U => a = #[(.int 65535)] ∧ Z.Warmed39 U.vm ∧ U.heap = h0) (fun _ _ _ _ _ => True) (fun _ U o U' => ∃ v L, o = .returned v ∧ (QQ_rm10_65536 Z  h0 n0) v U'.heap L ∧ FrameEnd U o U' L ({ frames := 1, cells := 0, slots := 0, locals := 15 } : Room).cells ({ frames := 1, cells := 0, slots := 0, locals := 15 } : Room).slots) := by
  refine MetFree.of_bodySF (plainFor_of_name pn_java_lang_Integer) hisR ?_
  intro p e s m args below meth c s₁ Bd hml0 hP hK
  obtain ⟨rfl, hZ, hh⟩ := hP
  have hx := Bd.exec
  have hby := Bd.bytes
  have hlk : meth.locks = false := BodyLoose.notSynchronized Bd
  have hml : c.maxLocals = 1 := hml0
  have hown : s.vm.findClass "java/lang/Integer" = some m.cls := findClass_of_methodNamed Bd.named
  have hnm := (name_of_methodNamed Bd.named Bd.method).1
  have X0 : Stand p l e ({ frames := 1, cells := 0, slots := 0, locals := 15 } : Room) s m #[(.int 65535)] below meth c s₁ [] 0 0 := Stand.of_body Bd
  have e0 : s₁.heap = h0 := by rw [← hh, Bd.state]; rfl
  have N0 := Fr.nil n0
  show own_G p.tables e below s (QQ_rm10_65536 Z  h0 n0) ({ frames := 1, cells := 0, slots := 0, locals := 15 } : Room).cells ({ frames := 1, cells := 0, slots := 0, locals := 15 } : Room).slots (s₁.setTop (entryFrame m #[(.int 65535)] 1))
  refine oS (B := s₁.setTop (mkF m 0 #[iv 65535] [])) (fun t k => castTop (ef_rm10_65536 m (65535 : Int32)) k) ?_
  refine oS (B := s₁.setTop (mkF m 1 #[iv 65535] [(.int 65535)])) (fun t k => XS.iloadN X0.here hx rfl (hb hby d10_0) rfl k) ?_
  refine oS (B := s₁.setTop (mkF m 3 #[iv 65535] [(.int (-2147483648 : Int32)), (.int 65535)])) (fun t k => X0.ldcInt hx hown (mvT hZ (ow hw 66 rfl)) (g := (mkF m 1 #[iv 65535] [(.int 65535)])) rfl (hb hby d10_1) t k) ?_
  refine oS (B := s₁.setTop (mkF m 4 #[iv 65535] [(.int 65535), (.int (-2147483648 : Int32)), (.int 65535)])) (fun t k => XS.iloadN X0.here hx rfl (hb hby d10_3) rfl k) ?_
  obtain ⟨_, _, ⟨T1, L1, k1, n1⟩, -, X1, ⟨Lc1, hQ1, l1, y1, z1⟩, st1⟩ := Jvm.LawKit.callS X0 hx (y := (⟨"java/lang/Integer", "numberOfLeadingZeros", "(I)I"⟩ : MethodName)) hown (mvT hZ (ow hw 67 rfl)) (mvT hZ (ow hw 68 rfl)) (mvT hZ (ow hw 64 rfl)) (mvT hZ (ow hw 69 rfl)) (by decide) (backOf (W := 2) (rm11_65536 l Z a0 hw []   h0 n0 Z0 ) hZ (ow hw 69 rfl) (ow hw 64 rfl) (by decide) (by decide)) (g := (mkF m 4 #[iv 65535] [(.int 65535), (.int (-2147483648 : Int32)), (.int 65535)])) rfl (by rw [hml]; rfl) (argsL := [(.int 65535)]) (rest := [(.int (-2147483648 : Int32)), (.int 65535)]) (lenOf pd_0 rfl) rfl (by show 2 * 0 + _ ≤ _; exact Nat.le_of_eq rfl) (hb hby d10_4) (fun _ _ => ⟨rfl, e0, (by decide : 0 + 0 ≤ _), (by decide : 0 + 0 ≤ _)⟩)
  dsimp only [Pt.U, Pt.locs, Pt.cells, Pt.slots] at X1 l1 y1 z1 st1 hQ1
  subst l1 y1 z1
  obtain ⟨rfl, N1q, e1⟩ := hQ1
  have N0 := Fr.app N0 N1q
  refine oS (B := T1.setTop (mkF m 7 #[iv 65535] [(.int 16), (.int (-2147483648 : Int32)), (.int 65535)])) (fun t k => st1 t k) ?_
  refine oS (B := T1.setTop (mkF m 8 #[iv 65535] [(.int 32768), (.int 65535)])) (fun t k => XS.iushr X1.here hx rfl (hb hby d10_7) rfl k) ?_
  refine oS (B := T1.setTop (mkF m 9 #[iv 65535] [(.int 32768)])) (fun t k => XS.iand X1.here hx rfl (hb hby d10_8) rfl k) ?_
  exact own_retI X1 hx hlk Bd.returns (hb hby d10_9) (by decide) (by decide) (by exact ⟨rfl, N0, e1⟩)
theorem ef_rm9_65536 (m : MethodId) (x0 : Int32) : entryFrame m #[(.int x0)] 1 = mkF m 0 #[iv x0] [] := by first | (simp [entryFrame, mkF, argsToLocals, Value.category]; done) | rfl
def QQ_rm9_65536 (Z : State)   (h0 : Heap) (n0 : Nat) (v : Option Value) (h : Heap) (L : List Loc) : Prop := v = some (.int 65536) ∧ Fr n0 L ∧ h = h0
set_option maxRecDepth 65536 in
set_option maxHeartbeats 40000000 in
theorem rm9_65536 (l : Launch) (Z : State) (a0 : Array Value) (hw : ∀ d ∈ tables_1, d.before a0 Z = true) (ws : List Jvm.Cond)   (h0 : Heap) (n0 : Nat) (Z0 : n0 ≤ h0.size)  :
    MetFree l (⟨"com/example/loomwire/loomwire/transport/MessageBuffer", "chunkCapacity", "(I)I"⟩ : MethodName) (head1 (Jvm.Cond.code (⟨"com/example/loomwire/loomwire/transport/MessageBuffer", "chunkCapacity", "(I)I"⟩ : MethodName) prog_102_method_7_code 1 (some .int) :: ws) ({ frames := 2, cells := 0, slots := 0, locals := 27 } : Room)) (fun a U => a = #[(.int 65536)] ∧ Z.Warmed39 U.vm ∧ U.heap = h0) (fun _ _ _ _ _ => True) (fun _ U o U' => ∃ v L, o = .returned v ∧ (QQ_rm9_65536 Z  h0 n0) v U'.heap L ∧ FrameEnd U o U' L ({ frames := 2, cells := 0, slots := 0, locals := 27 } : Room).cells ({ frames := 2, cells := 0, slots := 0, locals := 27 } : Room).slots) := by
  refine MetFree.of_bodySF (plainFor_of_name pn_com_example_loomwire_loomwire_transport_MessageBuffer) hisR ?_
  intro p e s m args below meth c s₁ Bd hml0 hP hK
  obtain ⟨rfl, hZ, hh⟩ := hP
  have hx := Bd.exec
  have hby := Bd.bytes
  have hlk : meth.locks = false := BodyLoose.notSynchronized Bd
  have hml : c.maxLocals = 1 := hml0
  have hown : s.vm.findClass "com/example/loomwire/loomwire/transport/MessageBuffer" = some m.cls := findClass_of_methodNamed Bd.named
  have hnm := (name_of_methodNamed Bd.named Bd.method).1
  have X0 : Stand p l e ({ frames := 2, cells := 0, slots := 0, locals := 27 } : Room) s m #[(.int 65536)] below meth c s₁ [] 0 0 := Stand.of_body Bd
  have e0 : s₁.heap = h0 := by rw [← hh, Bd.state]; rfl
  have N0 := Fr.nil n0
  show own_G p.tables e below s (QQ_rm9_65536 Z  h0 n0) ({ frames := 2, cells := 0, slots := 0, locals := 27 } : Room).cells ({ frames := 2, cells := 0, slots := 0, locals := 27 } : Room).slots (s₁.setTop (entryFrame m #[(.int 65536)] 1))
  refine oS (B := s₁.setTop (mkF m 0 #[iv 65536] [])) (fun t k => castTop (ef_rm9_65536 m (65536 : Int32)) k) ?_
  refine oS (B := s₁.setTop (mkF m 1 #[iv 65536] [(.int 65536)])) (fun t k => XS.iloadN X0.here hx rfl (hb hby d9_0) rfl k) ?_
  refine oS (B := s₁.setTop (mkF m 2 #[iv 65536] [(.int 1), (.int 65536)])) (fun t k => XS.iconst X0.here hx rfl (hb hby d9_1) k) ?_
  refine oS (B := s₁.setTop (mkF m 9 #[iv 65536] [])) (fun t k => XS.icmpYes X0.here hx rfl (pc0 := 2) (pc' := 9) rfl (hb hby d9_2) rfl (tlt (by decide)).2.2.1 (by decide) (by decide) k) ?_
  refine oS (B := s₁.setTop (mkF m 10 #[iv 65536] [(.int 65536)])) (fun t k => XS.iloadN X0.here hx rfl (hb hby d9_9) rfl k) ?_
  refine oS (B := s₁.setTop (mkF m 11 #[iv 65536] [(.int 1), (.int 65536)])) (fun t k => XS.iconst X0.here hx rfl (hb hby d9_10) k) ?_
  refine oS (B := s₁.setTop (mkF m 12 #[iv 65536] [(.int 65535)])) (fun t k => XS.isub X0.here hx rfl (hb hby d9_11) rfl k) ?_
  obtain ⟨_, _, ⟨T1, L1, k1, n1⟩, -, X1, ⟨Lc1, hQ1, l1, y1, z1⟩, st1⟩ := Jvm.LawKit.callS X0 hx (y := (⟨"java/lang/Integer", "highestOneBit", "(I)I"⟩ : MethodName)) hown (mvT hZ (ow hw 62 rfl)) (mvT hZ (ow hw 63 rfl)) (mvT hZ (ow hw 64 rfl)) (mvT hZ (ow hw 65 rfl)) (by decide) (backOf (W := 0) (rm10_65536 l Z a0 hw []   h0 n0 Z0 ) hZ (ow hw 65 rfl) (ow hw 64 rfl) (by decide) (by decide)) (g := (mkF m 12 #[iv 65536] [(.int 65535)])) rfl (by rw [hml]; rfl) (argsL := [(.int 65535)]) (rest := []) (lenOf pd_0 rfl) rfl (by show 2 * 0 + _ ≤ _; exact Nat.le_of_eq rfl) (hb hby d9_12) (fun _ _ => ⟨rfl, e0, (by decide : 0 + 0 ≤ _), (by decide : 0 + 0 ≤ _)⟩)
  dsimp only [Pt.U, Pt.locs, Pt.cells, Pt.slots] at X1 l1 y1 z1 st1 hQ1
  subst l1 y1 z1
  obtain ⟨rfl, N1q, e1⟩ := hQ1
  have N0 := Fr.app N0 N1q
  refine oS (B := T1.setTop (mkF m 15 #[iv 65536] [(.int 32768)])) (fun t k => st1 t k) ?_
  refine oS (B := T1.setTop (mkF m 16 #[iv 65536] [(.int 1), (.int 32768)])) (fun t k => XS.iconst X1.here hx rfl (hb hby d9_15) k) ?_
  refine oS (B := T1.setTop (mkF m 17 #[iv 65536] [(.int 65536)])) (fun t k => XS.ishl X1.here hx rfl (hb hby d9_16) rfl k) ?_
  exact own_retI X1 hx hlk Bd.returns (hb hby d9_17) (by decide) (by decide) (by exact ⟨rfl, N0, e1⟩)
theorem d8_0 : decode jdk_29_method_69_code 0 = .ok (.iload_n 0, 1) := by decide +kernel
theorem d8_1 : decode jdk_29_method_69_code 1 = .ok (.iload_n 1, 1) := by decide +kernel
theorem d8_2 : decode jdk_29_method_69_code 2 = .ok (.if_icmp .gt 7, 3) := by decide +kernel
theorem d8_5 : decode jdk_29_method_69_code 5 = .ok (.iload_n 0, 1) := by decide +kernel
theorem d8_6 : decode jdk_29_method_69_code 6 = .ok (.goto 4, 3) := by decide +kernel
theorem d8_9 : decode jdk_29_method_69_code 9 = .ok (.iload_n 1, 1) := by decide +kernel
theorem d8_10 : decode jdk_29_method_69_code 10 = .ok (.ireturn, 1) := by decide +kernel
theorem ef_rm8 (m : MethodId) (x0 : Int32) (x1 : Int32) : entryFrame m #[(.int x0), (.int x1)] 2 = mkF m 0 #[iv x0, iv x1] [] := by first | (simp [entryFrame, mkF, argsToLocals, Value.category]; done) | rfl
def QQ_rm8 (Z : State) (p0 : Int32) (p1 : Int32)  (h0 : Heap) (n0 : Nat) (v : Option Value) (h : Heap) (L : List Loc) : Prop := v = some (.int (own_min p0 p1)) ∧ Fr n0 L ∧ h = h0
set_option maxRecDepth 65536 in
set_option maxHeartbeats 40000000 in
theorem rm8 (l : Launch) (Z : State) (a0 : Array Value) (hw : ∀ d ∈ tables_1, d.before a0 Z = true) (ws : List Jvm.Cond) (p0 : Int32) (p1 : Int32)  (h0 : Heap) (n0 : Nat) (Z0 : n0 ≤ h0.size)  :
    MetFree l (⟨"java/lang/Math", "min", "(II)I"⟩ : MethodName) (head1 (Jvm.Cond.code (⟨"java/lang/Math", "min", "(II)I"⟩ : MethodName) jdk_29_method_69_code 2 (some .int) :: ws) ({ frames := 0, cells := 0, slots := 0, locals := 0 } : Room)) (fun a U => a = #[(.int p0), (.int p1)] ∧ Z.Warmed39 U.vm ∧ U.heap = h0) (fun _ _ _ _ _ => True) (fun _ U o U' => ∃ v L, o = .returned v ∧ (QQ_rm8 Z p0 p1 h0 n0) v U'.heap L ∧ FrameEnd U o U' L ({ frames := 0, cells := 0, slots := 0, locals := 0 } : Room).cells ({ frames := 0, cells := 0, slots := 0, locals := 0 } : Room).slots) := by
  refine MetFree.of_bodySF (Jvm.Free.JP.mathPlain rfl (by decide +kernel)) hisR ?_
  intro p e s m args below meth c s₁ Bd hml0 hP hK
  obtain ⟨rfl, hZ, hh⟩ := hP
  have hx := Bd.exec
  have hby := Bd.bytes
  have hlk : meth.locks = false := BodyLoose.notSynchronized Bd
  have hml : c.maxLocals = 2 := hml0
  have hown : s.vm.findClass "java/lang/Math" = some m.cls := findClass_of_methodNamed Bd.named
  have hnm := (name_of_methodNamed Bd.named Bd.method).1
  have X0 : Stand p l e ({ frames := 0, cells := 0, slots := 0, locals := 0 } : Room) s m #[(.int p0), (.int p1)] below meth c s₁ [] 0 0 := Stand.of_body Bd
  have e0 : s₁.heap = h0 := by rw [← hh, Bd.state]; rfl
  have N0 := Fr.nil n0
  show own_G p.tables e below s (QQ_rm8 Z p0 p1 h0 n0) ({ frames := 0, cells := 0, slots := 0, locals := 0 } : Room).cells ({ frames := 0, cells := 0, slots := 0, locals := 0 } : Room).slots (s₁.setTop (entryFrame m #[(.int p0), (.int p1)] 2))
  refine oS (B := s₁.setTop (mkF m 0 #[iv p0, iv p1] [])) (fun t k => castTop (ef_rm8 m p0 p1) k) ?_
  refine oS (B := s₁.setTop (mkF m 1 #[iv p0, iv p1] [(.int p0)])) (fun t k => XS.iloadN X0.here hx rfl (hb hby d8_0) rfl k) ?_
  refine oS (B := s₁.setTop (mkF m 2 #[iv p0, iv p1] [(.int p1), (.int p0)])) (fun t k => XS.iloadN X0.here hx rfl (hb hby d8_1) rfl k) ?_
  by_cases hc2 : p1 < p0
  · skip
    refine oS (B := s₁.setTop (mkF m 9 #[iv p0, iv p1] [])) (fun t k => XS.icmpYes X0.here hx rfl (pc0 := 2) (pc' := 9) rfl (hb hby d8_2) rfl (tlt hc2).2.2.1 (by decide) (by decide) k) ?_
    refine oS (B := s₁.setTop (mkF m 10 #[iv p0, iv p1] [(.int p1)])) (fun t k => XS.iloadN X0.here hx rfl (hb hby d8_9) rfl k) ?_
    exact own_retI X0 hx hlk Bd.returns (hb hby d8_10) (by decide) (by decide) (by exact ⟨congrArg (fun z => some (Value.int z)) (if_pos hc2).symm, N0, e0⟩)
  · skip
    refine oS (B := s₁.setTop (mkF m 5 #[iv p0, iv p1] [])) (fun t k => XS.icmpNo X0.here hx rfl (hb hby d8_2) rfl (flt hc2).2.2.1 k) ?_
    refine oS (B := s₁.setTop (mkF m 6 #[iv p0, iv p1] [(.int p0)])) (fun t k => XS.iloadN X0.here hx rfl (hb hby d8_5) rfl k) ?_
    refine oS (B := s₁.setTop (mkF m 10 #[iv p0, iv p1] [(.int p0)])) (fun t k => XS.goto X0.here hx rfl (pc0 := 6) (pc' := 10) rfl (hb hby d8_6) (by decide) (by decide) k) ?_
    exact own_retI X0 hx hlk Bd.returns (hb hby d8_10) (by decide) (by decide) (by exact ⟨congrArg (fun z => some (Value.int z)) (if_neg hc2).symm, N0, e0⟩)
theorem d19_0 : decode jdk_29_method_65_code 0 = .ok (.iload_n 0, 1) := by decide +kernel
theorem d19_1 : decode jdk_29_method_65_code 1 = .ok (.iload_n 1, 1) := by decide +kernel
theorem d19_2 : decode jdk_29_method_65_code 2 = .ok (.if_icmp .lt 7, 3) := by decide +kernel
theorem d19_5 : decode jdk_29_method_65_code 5 = .ok (.iload_n 0, 1) := by decide +kernel
theorem d19_6 : decode jdk_29_method_65_code 6 = .ok (.goto 4, 3) := by decide +kernel
theorem d19_10 : decode jdk_29_method_65_code 10 = .ok (.ireturn, 1) := by decide +kernel
theorem ef_rm19_10 (m : MethodId) (x0 : Int32) (x1 : Int32) : entryFrame m #[(.int x0), (.int x1)] 2 = mkF m 0 #[iv x0, iv x1] [] := by first | (simp [entryFrame, mkF, argsToLocals, Value.category]; done) | rfl
def QQ_rm19_10 (Z : State)   (h0 : Heap) (n0 : Nat) (v : Option Value) (h : Heap) (L : List Loc) : Prop := v = some (.int 10) ∧ Fr n0 L ∧ h = h0
set_option maxRecDepth 65536 in
set_option maxHeartbeats 40000000 in
theorem rm19_10 (l : Launch) (Z : State) (a0 : Array Value) (hw : ∀ d ∈ tables_1, d.before a0 Z = true) (ws : List Jvm.Cond)   (h0 : Heap) (n0 : Nat) (Z0 : n0 ≤ h0.size)  :
    MetFree l (⟨"java/lang/Math", "max", "(II)I"⟩ : MethodName) (head1 (Jvm.Cond.code (⟨"java/lang/Math", "max", "(II)I"⟩ : MethodName) jdk_29_method_65_code 2 (some .int) :: ws) ({ frames := 0, cells := 0, slots := 0, locals := 0 } : Room)) (fun a U => a = #[(.int 10), (.int 1)] ∧ Z.Warmed39 U.vm ∧ U.heap = h0) (fun _ _ _ _ _ => True) (fun _ U o U' => ∃ v L, o = .returned v ∧ (QQ_rm19_10 Z  h0 n0) v U'.heap L ∧ FrameEnd U o U' L ({ frames := 0, cells := 0, slots := 0, locals := 0 } : Room).cells ({ frames := 0, cells := 0, slots := 0, locals := 0 } : Room).slots) := by
  refine MetFree.of_bodySF (Jvm.Free.JP.mathPlain rfl (by decide +kernel)) hisR ?_
  intro p e s m args below meth c s₁ Bd hml0 hP hK
  obtain ⟨rfl, hZ, hh⟩ := hP
  have hx := Bd.exec
  have hby := Bd.bytes
  have hlk : meth.locks = false := BodyLoose.notSynchronized Bd
  have hml : c.maxLocals = 2 := hml0
  have hown : s.vm.findClass "java/lang/Math" = some m.cls := findClass_of_methodNamed Bd.named
  have hnm := (name_of_methodNamed Bd.named Bd.method).1
  have X0 : Stand p l e ({ frames := 0, cells := 0, slots := 0, locals := 0 } : Room) s m #[(.int 10), (.int 1)] below meth c s₁ [] 0 0 := Stand.of_body Bd
  have e0 : s₁.heap = h0 := by rw [← hh, Bd.state]; rfl
  have N0 := Fr.nil n0
  show own_G p.tables e below s (QQ_rm19_10 Z  h0 n0) ({ frames := 0, cells := 0, slots := 0, locals := 0 } : Room).cells ({ frames := 0, cells := 0, slots := 0, locals := 0 } : Room).slots (s₁.setTop (entryFrame m #[(.int 10), (.int 1)] 2))
  refine oS (B := s₁.setTop (mkF m 0 #[iv 10, iv 1] [])) (fun t k => castTop (ef_rm19_10 m (10 : Int32) (1 : Int32)) k) ?_
  refine oS (B := s₁.setTop (mkF m 1 #[iv 10, iv 1] [(.int 10)])) (fun t k => XS.iloadN X0.here hx rfl (hb hby d19_0) rfl k) ?_
  refine oS (B := s₁.setTop (mkF m 2 #[iv 10, iv 1] [(.int 1), (.int 10)])) (fun t k => XS.iloadN X0.here hx rfl (hb hby d19_1) rfl k) ?_
  refine oS (B := s₁.setTop (mkF m 5 #[iv 10, iv 1] [])) (fun t k => XS.icmpNo X0.here hx rfl (hb hby d19_2) rfl (flt (by decide)).1 k) ?_
  refine oS (B := s₁.setTop (mkF m 6 #[iv 10, iv 1] [(.int 10)])) (fun t k => XS.iloadN X0.here hx rfl (hb hby d19_5) rfl k) ?_
  refine oS (B := s₁.setTop (mkF m 10 #[iv 10, iv 1] [(.int 10)])) (fun t k => XS.goto X0.here hx rfl (pc0 := 6) (pc' := 10) rfl (hb hby d19_6) (by decide) (by decide) k) ?_
  exact own_retI X0 hx hlk Bd.returns (hb hby d19_10) (by decide) (by decide) (by exact ⟨rfl, N0, e0⟩)
theorem d7_0 : decode jdk_65_method_121_code 0 = .ok (.iload_n 1, 1) := by decide +kernel
theorem d7_1 : decode jdk_65_method_121_code 1 = .ok (.aload_n 0, 1) := by decide +kernel
theorem d7_2 : decode jdk_65_method_121_code 2 = .ok (.arraylength, 1) := by decide +kernel
theorem d7_3 : decode jdk_65_method_121_code 3 = .ok (.if_icmp .ne 11, 3) := by decide +kernel
theorem d7_14 : decode jdk_65_method_121_code 14 = .ok (.iload_n 1, 1) := by decide +kernel
theorem d7_15 : decode jdk_65_method_121_code 15 = .ok (.newarray .byte, 2) := by decide +kernel
theorem d7_17 : decode jdk_65_method_121_code 17 = .ok (.astore_n 2, 1) := by decide +kernel
theorem d7_18 : decode jdk_65_method_121_code 18 = .ok (.aload_n 0, 1) := by decide +kernel
theorem d7_19 : decode jdk_65_method_121_code 19 = .ok (.iconst 0, 1) := by decide +kernel
theorem d7_20 : decode jdk_65_method_121_code 20 = .ok (.aload_n 2, 1) := by decide +kernel
theorem d7_21 : decode jdk_65_method_121_code 21 = .ok (.iconst 0, 1) := by decide +kernel
theorem d7_22 : decode jdk_65_method_121_code 22 = .ok (.aload_n 0, 1) := by decide +kernel
theorem d7_23 : decode jdk_65_method_121_code 23 = .ok (.arraylength, 1) := by decide +kernel
theorem d7_24 : decode jdk_65_method_121_code 24 = .ok (.iload_n 1, 1) := by decide +kernel
theorem d7_25 : decode jdk_65_method_121_code 25 = .ok (.invokestatic 304, 3) := by decide +kernel
theorem d7_28 : decode jdk_65_method_121_code 28 = .ok (.invokestatic 150, 3) := by decide +kernel
theorem d7_31 : decode jdk_65_method_121_code 31 = .ok (.aload_n 2, 1) := by decide +kernel
theorem d7_32 : decode jdk_65_method_121_code 32 = .ok (.areturn, 1) := by decide +kernel
theorem pn_java_util_Arrays : plainName "java/util/Arrays" = true := by first | (simp [plainName, overriddenIn]; done) | decide +kernel
theorem ef_rmg_1 (m : MethodId) (x0 : Addr) (x1 : Int32) : entryFrame m #[(.ref x0), (.int x1)] 3 = mkF m 0 #[rv x0, iv x1, .unset] [] := by first | (simp [entryFrame, mkF, argsToLocals, Value.category]; done) | rfl
def QQ_rmg_1 (Z : State)  (em : Addr) (ke : ClassId) (de : Addr) (kd : ClassId) (h0 : Heap) (n0 : Nat) (v : Option Value) (h : Heap) (L : List Loc) : Prop := ∃ (b : Addr) (kb : ClassId) (vb : List Value), v = some (.ref b) ∧ Fr n0 L ∧ Keep h0 h [] ∧ n0 ≤ b ∧ h0.size ≤ b ∧ Exa Z h b "[B" ∧ Arv Z h b kb .byte (1 : Int32) vb (.int 0) ∧ vb.length = 1
set_option maxRecDepth 65536 in
set_option maxHeartbeats 40000000 in
theorem rmg_1 (l : Launch) (Z : State) (a0 : Array Value) (hw : ∀ d ∈ tables_1, d.before a0 Z = true) (ws : List Jvm.Cond)  (em : Addr) (ke : ClassId) (de : Addr) (kd : ClassId) (h0 : Heap) (n0 : Nat) (Z0 : n0 ≤ h0.size) (BB : own_Base Z em ke de kd) (O0 : Old Z n0 h0) :
    MetFree l (⟨"java/util/Arrays", "copyOf", "([BI)[B"⟩ : MethodName) (head1 (Jvm.Cond.code (⟨"java/util/Arrays", "copyOf", "([BI)[B"⟩ : MethodName) jdk_65_method_121_code 3 (some (.array .byte)) :: ws) ({ frames := 1, cells := 1, slots := 1, locals := 60 } : Room)) (fun a U => a = #[(.ref em), (.int 1)] ∧ Z.Warmed39 U.vm ∧ U.heap = h0) (fun _ _ _ _ _ => True) (fun _ U o U' => ∃ v L, o = .returned v ∧ (QQ_rmg_1 Z em ke de kd h0 n0) v U'.heap L ∧ FrameEnd U o U' L ({ frames := 1, cells := 1, slots := 1, locals := 60 } : Room).cells ({ frames := 1, cells := 1, slots := 1, locals := 60 } : Room).slots) := by
  refine MetFree.of_bodySF (plainFor_of_name pn_java_util_Arrays) hisR ?_
  intro p e s m args below meth c s₁ Bd hml0 hP hK
  obtain ⟨rfl, hZ, hh⟩ := hP
  have hx := Bd.exec
  have hby := Bd.bytes
  have hlk : meth.locks = false := BodyLoose.notSynchronized Bd
  have hml : c.maxLocals = 3 := hml0
  have hown : s.vm.findClass "java/util/Arrays" = some m.cls := findClass_of_methodNamed Bd.named
  have hnm := (name_of_methodNamed Bd.named Bd.method).1
  have X0 : Stand p l e ({ frames := 1, cells := 1, slots := 1, locals := 60 } : Room) s m #[(.ref em), (.int 1)] below meth c s₁ [] 0 0 := Stand.of_body Bd
  have e0 : s₁.heap = h0 := by rw [← hh, Bd.state]; rfl
  have N0 := Fr.nil n0
  show own_G p.tables e below s (QQ_rmg_1 Z em ke de kd h0 n0) ({ frames := 1, cells := 1, slots := 1, locals := 60 } : Room).cells ({ frames := 1, cells := 1, slots := 1, locals := 60 } : Room).slots (s₁.setTop (entryFrame m #[(.ref em), (.int 1)] 3))
  refine oS (B := s₁.setTop (mkF m 0 #[rv em, iv 1, .unset] [])) (fun t k => castTop (ef_rmg_1 m em (1 : Int32)) k) ?_
  have V_em := BB.2.2.1.ext O0.2
  have E_em := BB.2.1.ext O0.2
  have V_de := BB.2.2.2.2.ext O0.2
  have K0 := Keep.refl h0 []
  refine oS (B := s₁.setTop (mkF m 1 #[rv em, iv 1, .unset] [(.int 1)])) (fun t k => XS.iloadN X0.here hx rfl (hb hby d7_0) rfl k) ?_
  refine oS (B := s₁.setTop (mkF m 2 #[rv em, iv 1, .unset] [(.ref em), (.int 1)])) (fun t k => XS.aloadN X0.here hx rfl (hb hby d7_1) rfl rfl k) ?_
  have Vo_1 := V_em
  obtain ⟨cl_1, Ar_1, q_1, S_1, M_1, H_1, G_1⟩ := Vo_1
  refine oS (B := s₁.setTop (mkF m 3 #[rv em, iv 1, .unset] [(.int 0), (.int 1)])) (fun t k => X0.arraylength hx (by rw [e0]; exact Ar_1.1) (State.isArrayOf_alike hZ.alike Ar_1.2.1) (g := (mkF m 2 #[rv em, iv 1, .unset] [(.ref em), (.int 1)])) rfl rfl (hb hby d7_2) t (by rw [len_of S_1 M_1]; exact k)) ?_
  refine oS (B := s₁.setTop (mkF m 14 #[rv em, iv 1, .unset] [])) (fun t k => XS.icmpYes X0.here hx rfl (pc0 := 3) (pc' := 14) rfl (hb hby d7_3) rfl (feq (by decide)).2 (by decide) (by decide) k) ?_
  refine oS (B := s₁.setTop (mkF m 15 #[rv em, iv 1, .unset] [(.int 1)])) (fun t k => XS.iloadN X0.here hx rfl (hb hby d7_14) rfl k) ?_
  obtain ⟨T2, h2, k2, X2, e2, E2, A2, EE2, st2⟩ := newPE X0 hx hZ (ow hw 0 rfl) e0 (g := (mkF m 15 #[rv em, iv 1, .unset] [(.int 1)])) rfl (hb hby d7_15) rfl (by decide) (cap := 1) (by decide) (by decide) (by decide) (by decide) (ad := "[B") rfl
  obtain ⟨nb, g2⟩ : ∃ z, z = h0.size := ⟨_, rfl⟩
  rw [← g2] at A2 EE2 st2
  have g_nb : n0 ≤ nb := Nat.le_trans Z0 (Nat.le_of_eq g2.symm)
  have sz_nb : h0.size ≤ nb := Nat.le_trans K0.1 (Nat.le_of_eq g2.symm)
  have ne_em_nb : em ≠ nb := Nat.ne_of_lt (Nat.lt_of_lt_of_le E_em.lt (Nat.le_of_eq g2.symm))
  have ne_de_nb : de ≠ nb := Nat.ne_of_lt (Nat.lt_of_lt_of_le V_de.lt (Nat.le_of_eq g2.symm))
  have E_em := E_em.ext E2
  have V_em := V_em.ext E2
  have V_de := V_de.ext E2
  have Z0 := Nat.le_trans Z0 E2.1
  have O0 := O0.ext E2
  have K0 := K0.ext E2
  have E_nb := EE2
  have K_nb := A2
  have V_nb : Arv Z h2 nb k2 .byte (1 : Int32) ([] ++ List.replicate 1 (.int 0)) (.int 0) := (Arv.new A2 (by decide)).pad (pad_rep [] (.int 0) 1)
  refine oS (B := T2.setTop (mkF m 17 #[rv em, iv 1, .unset] [(.ref nb)])) (fun t k => st2 t k) ?_
  refine oS (B := T2.setTop (mkF m 18 #[rv em, iv 1, rv nb] [])) (fun t k => XS.astoreN X2.here hx rfl (hb hby d7_17) rfl rfl (l' := #[rv em, iv 1, rv nb]) rfl k) ?_
  refine oS (B := T2.setTop (mkF m 19 #[rv em, iv 1, rv nb] [(.ref em)])) (fun t k => XS.aloadN X2.here hx rfl (hb hby d7_18) rfl rfl k) ?_
  refine oS (B := T2.setTop (mkF m 20 #[rv em, iv 1, rv nb] [(.int 0), (.ref em)])) (fun t k => XS.iconst X2.here hx rfl (hb hby d7_19) k) ?_
  refine oS (B := T2.setTop (mkF m 21 #[rv em, iv 1, rv nb] [(.ref nb), (.int 0), (.ref em)])) (fun t k => XS.aloadN X2.here hx rfl (hb hby d7_20) rfl rfl k) ?_
  refine oS (B := T2.setTop (mkF m 22 #[rv em, iv 1, rv nb] [(.int 0), (.ref nb), (.int 0), (.ref em)])) (fun t k => XS.iconst X2.here hx rfl (hb hby d7_21) k) ?_
  refine oS (B := T2.setTop (mkF m 23 #[rv em, iv 1, rv nb] [(.ref em), (.int 0), (.ref nb), (.int 0), (.ref em)])) (fun t k => XS.aloadN X2.here hx rfl (hb hby d7_22) rfl rfl k) ?_
  have Vo_3 := V_em
  obtain ⟨cl_3, Ar_3, q_3, S_3, M_3, H_3, G_3⟩ := Vo_3
  refine oS (B := T2.setTop (mkF m 24 #[rv em, iv 1, rv nb] [(.int 0), (.int 0), (.ref nb), (.int 0), (.ref em)])) (fun t k => X2.arraylength hx (by rw [e2]; exact Ar_3.1) (State.isArrayOf_alike hZ.alike Ar_3.2.1) (g := (mkF m 23 #[rv em, iv 1, rv nb] [(.ref em), (.int 0), (.ref nb), (.int 0), (.ref em)])) rfl rfl (hb hby d7_23) t (by rw [len_of S_3 M_3]; exact k)) ?_
  refine oS (B := T2.setTop (mkF m 25 #[rv em, iv 1, rv nb] [(.int 1), (.int 0), (.int 0), (.ref nb), (.int 0), (.ref em)])) (fun t k => XS.iloadN X2.here hx rfl (hb hby d7_24) rfl k) ?_
  obtain ⟨_, _, ⟨T4, L4, k4, n4⟩, -, X4, ⟨Lc4, hQ4, l4, y4, z4⟩, st4⟩ := Jvm.LawKit.callS X2 hx (y := (⟨"java/lang/Math", "min", "(II)I"⟩ : MethodName)) hown (mvT hZ (ow hw 71 rfl)) (mvT hZ (ow hw 56 rfl)) (mvT hZ (ow hw 57 rfl)) (mvT hZ (ow hw 58 rfl)) (by decide) (backOf (W := 4) (rm8 l Z a0 hw [] (0 : Int32) (1 : Int32)  h2 n0 Z0 ) hZ (ow hw 58 rfl) (ow hw 57 rfl) (by decide) (by decide)) (g := (mkF m 25 #[rv em, iv 1, rv nb] [(.int 1), (.int 0), (.int 0), (.ref nb), (.int 0), (.ref em)])) rfl (by rw [hml]; rfl) (argsL := [(.int 0), (.int 1)]) (rest := [(.int 0), (.ref nb), (.int 0), (.ref em)]) (lenOf pd_1 rfl) rfl (by show 2 * 0 + _ ≤ _; exact Nat.le_of_eq rfl) (hb hby d7_25) (fun _ _ => ⟨rfl, e2, (by decide : 1 + 0 ≤ _), (by decide : 1 + 0 ≤ _)⟩)
  dsimp only [Pt.U, Pt.locs, Pt.cells, Pt.slots] at X4 l4 y4 z4 st4 hQ4
  subst l4 y4 z4
  obtain ⟨rfl, N4q, e4⟩ := hQ4
  have N0 := Fr.app N0 N4q
  refine oS (B := T4.setTop (mkF m 28 #[rv em, iv 1, rv nb] [(.int (own_min (0 : Int32) (1 : Int32))), (.int 0), (.ref nb), (.int 0), (.ref em)])) (fun t k => st4 t k) ?_
  have hlit4 : (own_min (0 : Int32) (1 : Int32)) = (0 : Int32) := by decide
  rw [hlit4]
  obtain ⟨T5, h5, L5, X5, e5, N5q, K5, VC5, st5⟩ := cpA X4 hx hZ hown (ow hw 72 rfl) (ow hw 75 rfl) (ow hw 73 rfl) (ow hw 74 rfl) e4 V_em V_nb (Or.inl ⟨rfl, rfl⟩) (by decide) (by decide) (by decide) (by decide) (by decide) rfl (Nat.zero_le _) N0 g_nb (g := (mkF m 28 #[rv em, iv 1, rv nb] [(.int 0), (.int 0), (.ref nb), (.int 0), (.ref em)])) rfl (by rw [hml]; rfl) rfl (hb hby d7_28) (by decide) (W := 0) (by show 2 * 0 + _ ≤ _; exact Nat.le_of_eq rfl) (by decide)
  have E_em := E_em.keep K5
  have V_em := V_em.keep K5 (ninS ne_em_nb nin0)
  have V_de := V_de.keep K5 (ninS ne_de_nb nin0)
  have E_nb := E_nb.keep K5
  have Z0 := Nat.le_trans Z0 K5.1
  have O0 := O0.keep K5 (allS g_nb all0)
  have K0 := K0.trans K5 (allS (Or.inr sz_nb) all0)
  have N0 := N5q
  have V_nb := VC5
  refine oS (B := T5.setTop (mkF m 31 #[rv em, iv 1, rv nb] [])) (fun t k => st5 t k) ?_
  refine oS (B := T5.setTop (mkF m 32 #[rv em, iv 1, rv nb] [(.ref nb)])) (fun t k => XS.aloadN X5.here hx rfl (hb hby d7_31) rfl rfl k) ?_
  exact own_retA X5 hx hlk Bd.returns (hb hby d7_32) rfl (by decide) (by decide) (by rw [e5]; exact ⟨_, _, _, rfl, N0, K0, g_nb, sz_nb, E_nb, V_nb, own_len0 _ _ _⟩)
theorem ef_rmg_2 (m : MethodId) (x0 : Addr) (x1 : Int32) : entryFrame m #[(.ref x0), (.int x1)] 3 = mkF m 0 #[rv x0, iv x1, .unset] [] := by first | (simp [entryFrame, mkF, argsToLocals, Value.category]; done) | rfl
def QQ_rmg_2 (Z : State)  (em : Addr) (ke : ClassId) (de : Addr) (kd : ClassId) (h0 : Heap) (n0 : Nat) (v : Option Value) (h : Heap) (L : List Loc) : Prop := ∃ (b : Addr) (kb : ClassId) (vb : List Value), v = some (.ref b) ∧ Fr n0 L ∧ Keep h0 h [] ∧ n0 ≤ b ∧ h0.size ≤ b ∧ Exa Z h b "[B" ∧ Arv Z h b kb .byte (2 : Int32) vb (.int 0) ∧ vb.length = 2
set_option maxRecDepth 65536 in
set_option maxHeartbeats 40000000 in
theorem rmg_2 (l : Launch) (Z : State) (a0 : Array Value) (hw : ∀ d ∈ tables_1, d.before a0 Z = true) (ws : List Jvm.Cond)  (em : Addr) (ke : ClassId) (de : Addr) (kd : ClassId) (h0 : Heap) (n0 : Nat) (Z0 : n0 ≤ h0.size) (BB : own_Base Z em ke de kd) (O0 : Old Z n0 h0) :
    MetFree l (⟨"java/util/Arrays", "copyOf", "([BI)[B"⟩ : MethodName) (head1 (Jvm.Cond.code (⟨"java/util/Arrays", "copyOf", "([BI)[B"⟩ : MethodName) jdk_65_method_121_code 3 (some (.array .byte)) :: ws) ({ frames := 1, cells := 1, slots := 2, locals := 60 } : Room)) (fun a U => a = #[(.ref em), (.int 2)] ∧ Z.Warmed39 U.vm ∧ U.heap = h0) (fun _ _ _ _ _ => True) (fun _ U o U' => ∃ v L, o = .returned v ∧ (QQ_rmg_2 Z em ke de kd h0 n0) v U'.heap L ∧ FrameEnd U o U' L ({ frames := 1, cells := 1, slots := 2, locals := 60 } : Room).cells ({ frames := 1, cells := 1, slots := 2, locals := 60 } : Room).slots) := by
  refine MetFree.of_bodySF (plainFor_of_name pn_java_util_Arrays) hisR ?_
  intro p e s m args below meth c s₁ Bd hml0 hP hK
  obtain ⟨rfl, hZ, hh⟩ := hP
  have hx := Bd.exec
  have hby := Bd.bytes
  have hlk : meth.locks = false := BodyLoose.notSynchronized Bd
  have hml : c.maxLocals = 3 := hml0
  have hown : s.vm.findClass "java/util/Arrays" = some m.cls := findClass_of_methodNamed Bd.named
  have hnm := (name_of_methodNamed Bd.named Bd.method).1
  have X0 : Stand p l e ({ frames := 1, cells := 1, slots := 2, locals := 60 } : Room) s m #[(.ref em), (.int 2)] below meth c s₁ [] 0 0 := Stand.of_body Bd
  have e0 : s₁.heap = h0 := by rw [← hh, Bd.state]; rfl
  have N0 := Fr.nil n0
  show own_G p.tables e below s (QQ_rmg_2 Z em ke de kd h0 n0) ({ frames := 1, cells := 1, slots := 2, locals := 60 } : Room).cells ({ frames := 1, cells := 1, slots := 2, locals := 60 } : Room).slots (s₁.setTop (entryFrame m #[(.ref em), (.int 2)] 3))
  refine oS (B := s₁.setTop (mkF m 0 #[rv em, iv 2, .unset] [])) (fun t k => castTop (ef_rmg_2 m em (2 : Int32)) k) ?_
  have V_em := BB.2.2.1.ext O0.2
  have E_em := BB.2.1.ext O0.2
  have V_de := BB.2.2.2.2.ext O0.2
  have K0 := Keep.refl h0 []
  refine oS (B := s₁.setTop (mkF m 1 #[rv em, iv 2, .unset] [(.int 2)])) (fun t k => XS.iloadN X0.here hx rfl (hb hby d7_0) rfl k) ?_
  refine oS (B := s₁.setTop (mkF m 2 #[rv em, iv 2, .unset] [(.ref em), (.int 2)])) (fun t k => XS.aloadN X0.here hx rfl (hb hby d7_1) rfl rfl k) ?_
  have Vo_1 := V_em
  obtain ⟨cl_1, Ar_1, q_1, S_1, M_1, H_1, G_1⟩ := Vo_1
  refine oS (B := s₁.setTop (mkF m 3 #[rv em, iv 2, .unset] [(.int 0), (.int 2)])) (fun t k => X0.arraylength hx (by rw [e0]; exact Ar_1.1) (State.isArrayOf_alike hZ.alike Ar_1.2.1) (g := (mkF m 2 #[rv em, iv 2, .unset] [(.ref em), (.int 2)])) rfl rfl (hb hby d7_2) t (by rw [len_of S_1 M_1]; exact k)) ?_
  refine oS (B := s₁.setTop (mkF m 14 #[rv em, iv 2, .unset] [])) (fun t k => XS.icmpYes X0.here hx rfl (pc0 := 3) (pc' := 14) rfl (hb hby d7_3) rfl (feq (by decide)).2 (by decide) (by decide) k) ?_
  refine oS (B := s₁.setTop (mkF m 15 #[rv em, iv 2, .unset] [(.int 2)])) (fun t k => XS.iloadN X0.here hx rfl (hb hby d7_14) rfl k) ?_
  obtain ⟨T2, h2, k2, X2, e2, E2, A2, EE2, st2⟩ := newPE X0 hx hZ (ow hw 0 rfl) e0 (g := (mkF m 15 #[rv em, iv 2, .unset] [(.int 2)])) rfl (hb hby d7_15) rfl (by decide) (cap := 2) (by decide) (by decide) (by decide) (by decide) (ad := "[B") rfl
  obtain ⟨nb, g2⟩ : ∃ z, z = h0.size := ⟨_, rfl⟩
  rw [← g2] at A2 EE2 st2
  have g_nb : n0 ≤ nb := Nat.le_trans Z0 (Nat.le_of_eq g2.symm)
  have sz_nb : h0.size ≤ nb := Nat.le_trans K0.1 (Nat.le_of_eq g2.symm)
  have ne_em_nb : em ≠ nb := Nat.ne_of_lt (Nat.lt_of_lt_of_le E_em.lt (Nat.le_of_eq g2.symm))
  have ne_de_nb : de ≠ nb := Nat.ne_of_lt (Nat.lt_of_lt_of_le V_de.lt (Nat.le_of_eq g2.symm))
  have E_em := E_em.ext E2
  have V_em := V_em.ext E2
  have V_de := V_de.ext E2
  have Z0 := Nat.le_trans Z0 E2.1
  have O0 := O0.ext E2
  have K0 := K0.ext E2
  have E_nb := EE2
  have K_nb := A2
  have V_nb : Arv Z h2 nb k2 .byte (2 : Int32) ([] ++ List.replicate 2 (.int 0)) (.int 0) := (Arv.new A2 (by decide)).pad (pad_rep [] (.int 0) 2)
  refine oS (B := T2.setTop (mkF m 17 #[rv em, iv 2, .unset] [(.ref nb)])) (fun t k => st2 t k) ?_
  refine oS (B := T2.setTop (mkF m 18 #[rv em, iv 2, rv nb] [])) (fun t k => XS.astoreN X2.here hx rfl (hb hby d7_17) rfl rfl (l' := #[rv em, iv 2, rv nb]) rfl k) ?_
  refine oS (B := T2.setTop (mkF m 19 #[rv em, iv 2, rv nb] [(.ref em)])) (fun t k => XS.aloadN X2.here hx rfl (hb hby d7_18) rfl rfl k) ?_
  refine oS (B := T2.setTop (mkF m 20 #[rv em, iv 2, rv nb] [(.int 0), (.ref em)])) (fun t k => XS.iconst X2.here hx rfl (hb hby d7_19) k) ?_
  refine oS (B := T2.setTop (mkF m 21 #[rv em, iv 2, rv nb] [(.ref nb), (.int 0), (.ref em)])) (fun t k => XS.aloadN X2.here hx rfl (hb hby d7_20) rfl rfl k) ?_
  refine oS (B := T2.setTop (mkF m 22 #[rv em, iv 2, rv nb] [(.int 0), (.ref nb), (.int 0), (.ref em)])) (fun t k => XS.iconst X2.here hx rfl (hb hby d7_21) k) ?_
  refine oS (B := T2.setTop (mkF m 23 #[rv em, iv 2, rv nb] [(.ref em), (.int 0), (.ref nb), (.int 0), (.ref em)])) (fun t k => XS.aloadN X2.here hx rfl (hb hby d7_22) rfl rfl k) ?_
  have Vo_3 := V_em
  obtain ⟨cl_3, Ar_3, q_3, S_3, M_3, H_3, G_3⟩ := Vo_3
  refine oS (B := T2.setTop (mkF m 24 #[rv em, iv 2, rv nb] [(.int 0), (.int 0), (.ref nb), (.int 0), (.ref em)])) (fun t k => X2.arraylength hx (by rw [e2]; exact Ar_3.1) (State.isArrayOf_alike hZ.alike Ar_3.2.1) (g := (mkF m 23 #[rv em, iv 2, rv nb] [(.ref em), (.int 0), (.ref nb), (.int 0), (.ref em)])) rfl rfl (hb hby d7_23) t (by rw [len_of S_3 M_3]; exact k)) ?_
  refine oS (B := T2.setTop (mkF m 25 #[rv em, iv 2, rv nb] [(.int 2), (.int 0), (.int 0), (.ref nb), (.int 0), (.ref em)])) (fun t k => XS.iloadN X2.here hx rfl (hb hby d7_24) rfl k) ?_
  obtain ⟨_, _, ⟨T4, L4, k4, n4⟩, -, X4, ⟨Lc4, hQ4, l4, y4, z4⟩, st4⟩ := Jvm.LawKit.callS X2 hx (y := (⟨"java/lang/Math", "min", "(II)I"⟩ : MethodName)) hown (mvT hZ (ow hw 71 rfl)) (mvT hZ (ow hw 56 rfl)) (mvT hZ (ow hw 57 rfl)) (mvT hZ (ow hw 58 rfl)) (by decide) (backOf (W := 4) (rm8 l Z a0 hw [] (0 : Int32) (2 : Int32)  h2 n0 Z0 ) hZ (ow hw 58 rfl) (ow hw 57 rfl) (by decide) (by decide)) (g := (mkF m 25 #[rv em, iv 2, rv nb] [(.int 2), (.int 0), (.int 0), (.ref nb), (.int 0), (.ref em)])) rfl (by rw [hml]; rfl) (argsL := [(.int 0), (.int 2)]) (rest := [(.int 0), (.ref nb), (.int 0), (.ref em)]) (lenOf pd_1 rfl) rfl (by show 2 * 0 + _ ≤ _; exact Nat.le_of_eq rfl) (hb hby d7_25) (fun _ _ => ⟨rfl, e2, (by decide : 1 + 0 ≤ _), (by decide : 2 + 0 ≤ _)⟩)
  dsimp only [Pt.U, Pt.locs, Pt.cells, Pt.slots] at X4 l4 y4 z4 st4 hQ4
  subst l4 y4 z4
  obtain ⟨rfl, N4q, e4⟩ := hQ4
  have N0 := Fr.app N0 N4q
  refine oS (B := T4.setTop (mkF m 28 #[rv em, iv 2, rv nb] [(.int (own_min (0 : Int32) (2 : Int32))), (.int 0), (.ref nb), (.int 0), (.ref em)])) (fun t k => st4 t k) ?_
  have hlit4 : (own_min (0 : Int32) (2 : Int32)) = (0 : Int32) := by decide
  rw [hlit4]
  obtain ⟨T5, h5, L5, X5, e5, N5q, K5, VC5, st5⟩ := cpA X4 hx hZ hown (ow hw 72 rfl) (ow hw 75 rfl) (ow hw 73 rfl) (ow hw 74 rfl) e4 V_em V_nb (Or.inl ⟨rfl, rfl⟩) (by decide) (by decide) (by decide) (by decide) (by decide) rfl (Nat.zero_le _) N0 g_nb (g := (mkF m 28 #[rv em, iv 2, rv nb] [(.int 0), (.int 0), (.ref nb), (.int 0), (.ref em)])) rfl (by rw [hml]; rfl) rfl (hb hby d7_28) (by decide) (W := 0) (by show 2 * 0 + _ ≤ _; exact Nat.le_of_eq rfl) (by decide)
  have E_em := E_em.keep K5
  have V_em := V_em.keep K5 (ninS ne_em_nb nin0)
  have V_de := V_de.keep K5 (ninS ne_de_nb nin0)
  have E_nb := E_nb.keep K5
  have Z0 := Nat.le_trans Z0 K5.1
  have O0 := O0.keep K5 (allS g_nb all0)
  have K0 := K0.trans K5 (allS (Or.inr sz_nb) all0)
  have N0 := N5q
  have V_nb := VC5
  refine oS (B := T5.setTop (mkF m 31 #[rv em, iv 2, rv nb] [])) (fun t k => st5 t k) ?_
  refine oS (B := T5.setTop (mkF m 32 #[rv em, iv 2, rv nb] [(.ref nb)])) (fun t k => XS.aloadN X5.here hx rfl (hb hby d7_31) rfl rfl k) ?_
  exact own_retA X5 hx hlk Bd.returns (hb hby d7_32) rfl (by decide) (by decide) (by rw [e5]; exact ⟨_, _, _, rfl, N0, K0, g_nb, sz_nb, E_nb, V_nb, own_len0 _ _ _⟩)
theorem ef_rmg_4 (m : MethodId) (x0 : Addr) (x1 : Int32) : entryFrame m #[(.ref x0), (.int x1)] 3 = mkF m 0 #[rv x0, iv x1, .unset] [] := by first | (simp [entryFrame, mkF, argsToLocals, Value.category]; done) | rfl
def QQ_rmg_4 (Z : State)  (em : Addr) (ke : ClassId) (de : Addr) (kd : ClassId) (h0 : Heap) (n0 : Nat) (v : Option Value) (h : Heap) (L : List Loc) : Prop := ∃ (b : Addr) (kb : ClassId) (vb : List Value), v = some (.ref b) ∧ Fr n0 L ∧ Keep h0 h [] ∧ n0 ≤ b ∧ h0.size ≤ b ∧ Exa Z h b "[B" ∧ Arv Z h b kb .byte (4 : Int32) vb (.int 0) ∧ vb.length = 4
set_option maxRecDepth 65536 in
set_option maxHeartbeats 40000000 in
theorem rmg_4 (l : Launch) (Z : State) (a0 : Array Value) (hw : ∀ d ∈ tables_1, d.before a0 Z = true) (ws : List Jvm.Cond)  (em : Addr) (ke : ClassId) (de : Addr) (kd : ClassId) (h0 : Heap) (n0 : Nat) (Z0 : n0 ≤ h0.size) (BB : own_Base Z em ke de kd) (O0 : Old Z n0 h0) :
    MetFree l (⟨"java/util/Arrays", "copyOf", "([BI)[B"⟩ : MethodName) (head1 (Jvm.Cond.code (⟨"java/util/Arrays", "copyOf", "([BI)[B"⟩ : MethodName) jdk_65_method_121_code 3 (some (.array .byte)) :: ws) ({ frames := 1, cells := 1, slots := 4, locals := 60 } : Room)) (fun a U => a = #[(.ref em), (.int 4)] ∧ Z.Warmed39 U.vm ∧ U.heap = h0) (fun _ _ _ _ _ => True) (fun _ U o U' => ∃ v L, o = .returned v ∧ (QQ_rmg_4 Z em ke de kd h0 n0) v U'.heap L ∧ FrameEnd U o U' L ({ frames := 1, cells := 1, slots := 4, locals := 60 } : Room).cells ({ frames := 1, cells := 1, slots := 4, locals := 60 } : Room).slots) := by
  refine MetFree.of_bodySF (plainFor_of_name pn_java_util_Arrays) hisR ?_
  intro p e s m args below meth c s₁ Bd hml0 hP hK
  obtain ⟨rfl, hZ, hh⟩ := hP
  have hx := Bd.exec
  have hby := Bd.bytes
  have hlk : meth.locks = false := BodyLoose.notSynchronized Bd
  have hml : c.maxLocals = 3 := hml0
  have hown : s.vm.findClass "java/util/Arrays" = some m.cls := findClass_of_methodNamed Bd.named
  have hnm := (name_of_methodNamed Bd.named Bd.method).1
  have X0 : Stand p l e ({ frames := 1, cells := 1, slots := 4, locals := 60 } : Room) s m #[(.ref em), (.int 4)] below meth c s₁ [] 0 0 := Stand.of_body Bd
  have e0 : s₁.heap = h0 := by rw [← hh, Bd.state]; rfl
  have N0 := Fr.nil n0
  show own_G p.tables e below s (QQ_rmg_4 Z em ke de kd h0 n0) ({ frames := 1, cells := 1, slots := 4, locals := 60 } : Room).cells ({ frames := 1, cells := 1, slots := 4, locals := 60 } : Room).slots (s₁.setTop (entryFrame m #[(.ref em), (.int 4)] 3))
  refine oS (B := s₁.setTop (mkF m 0 #[rv em, iv 4, .unset] [])) (fun t k => castTop (ef_rmg_4 m em (4 : Int32)) k) ?_
  have V_em := BB.2.2.1.ext O0.2
  have E_em := BB.2.1.ext O0.2
  have V_de := BB.2.2.2.2.ext O0.2
  have K0 := Keep.refl h0 []
  refine oS (B := s₁.setTop (mkF m 1 #[rv em, iv 4, .unset] [(.int 4)])) (fun t k => XS.iloadN X0.here hx rfl (hb hby d7_0) rfl k) ?_
  refine oS (B := s₁.setTop (mkF m 2 #[rv em, iv 4, .unset] [(.ref em), (.int 4)])) (fun t k => XS.aloadN X0.here hx rfl (hb hby d7_1) rfl rfl k) ?_
  have Vo_1 := V_em
  obtain ⟨cl_1, Ar_1, q_1, S_1, M_1, H_1, G_1⟩ := Vo_1
  refine oS (B := s₁.setTop (mkF m 3 #[rv em, iv 4, .unset] [(.int 0), (.int 4)])) (fun t k => X0.arraylength hx (by rw [e0]; exact Ar_1.1) (State.isArrayOf_alike hZ.alike Ar_1.2.1) (g := (mkF m 2 #[rv em, iv 4, .unset] [(.ref em), (.int 4)])) rfl rfl (hb hby d7_2) t (by rw [len_of S_1 M_1]; exact k)) ?_
  refine oS (B := s₁.setTop (mkF m 14 #[rv em, iv 4, .unset] [])) (fun t k => XS.icmpYes X0.here hx rfl (pc0 := 3) (pc' := 14) rfl (hb hby d7_3) rfl (feq (by decide)).2 (by decide) (by decide) k) ?_
  refine oS (B := s₁.setTop (mkF m 15 #[rv em, iv 4, .unset] [(.int 4)])) (fun t k => XS.iloadN X0.here hx rfl (hb hby d7_14) rfl k) ?_
  obtain ⟨T2, h2, k2, X2, e2, E2, A2, EE2, st2⟩ := newPE X0 hx hZ (ow hw 0 rfl) e0 (g := (mkF m 15 #[rv em, iv 4, .unset] [(.int 4)])) rfl (hb hby d7_15) rfl (by decide) (cap := 4) (by decide) (by decide) (by decide) (by decide) (ad := "[B") rfl
  obtain ⟨nb, g2⟩ : ∃ z, z = h0.size := ⟨_, rfl⟩
  rw [← g2] at A2 EE2 st2
  have g_nb : n0 ≤ nb := Nat.le_trans Z0 (Nat.le_of_eq g2.symm)
  have sz_nb : h0.size ≤ nb := Nat.le_trans K0.1 (Nat.le_of_eq g2.symm)
  have ne_em_nb : em ≠ nb := Nat.ne_of_lt (Nat.lt_of_lt_of_le E_em.lt (Nat.le_of_eq g2.symm))
  have ne_de_nb : de ≠ nb := Nat.ne_of_lt (Nat.lt_of_lt_of_le V_de.lt (Nat.le_of_eq g2.symm))
  have E_em := E_em.ext E2
  have V_em := V_em.ext E2
  have V_de := V_de.ext E2
  have Z0 := Nat.le_trans Z0 E2.1
  have O0 := O0.ext E2
  have K0 := K0.ext E2
  have E_nb := EE2
  have K_nb := A2
  have V_nb : Arv Z h2 nb k2 .byte (4 : Int32) ([] ++ List.replicate 4 (.int 0)) (.int 0) := (Arv.new A2 (by decide)).pad (pad_rep [] (.int 0) 4)
  refine oS (B := T2.setTop (mkF m 17 #[rv em, iv 4, .unset] [(.ref nb)])) (fun t k => st2 t k) ?_
  refine oS (B := T2.setTop (mkF m 18 #[rv em, iv 4, rv nb] [])) (fun t k => XS.astoreN X2.here hx rfl (hb hby d7_17) rfl rfl (l' := #[rv em, iv 4, rv nb]) rfl k) ?_
  refine oS (B := T2.setTop (mkF m 19 #[rv em, iv 4, rv nb] [(.ref em)])) (fun t k => XS.aloadN X2.here hx rfl (hb hby d7_18) rfl rfl k) ?_
  refine oS (B := T2.setTop (mkF m 20 #[rv em, iv 4, rv nb] [(.int 0), (.ref em)])) (fun t k => XS.iconst X2.here hx rfl (hb hby d7_19) k) ?_
  refine oS (B := T2.setTop (mkF m 21 #[rv em, iv 4, rv nb] [(.ref nb), (.int 0), (.ref em)])) (fun t k => XS.aloadN X2.here hx rfl (hb hby d7_20) rfl rfl k) ?_
  refine oS (B := T2.setTop (mkF m 22 #[rv em, iv 4, rv nb] [(.int 0), (.ref nb), (.int 0), (.ref em)])) (fun t k => XS.iconst X2.here hx rfl (hb hby d7_21) k) ?_
  refine oS (B := T2.setTop (mkF m 23 #[rv em, iv 4, rv nb] [(.ref em), (.int 0), (.ref nb), (.int 0), (.ref em)])) (fun t k => XS.aloadN X2.here hx rfl (hb hby d7_22) rfl rfl k) ?_
  have Vo_3 := V_em
  obtain ⟨cl_3, Ar_3, q_3, S_3, M_3, H_3, G_3⟩ := Vo_3
  refine oS (B := T2.setTop (mkF m 24 #[rv em, iv 4, rv nb] [(.int 0), (.int 0), (.ref nb), (.int 0), (.ref em)])) (fun t k => X2.arraylength hx (by rw [e2]; exact Ar_3.1) (State.isArrayOf_alike hZ.alike Ar_3.2.1) (g := (mkF m 23 #[rv em, iv 4, rv nb] [(.ref em), (.int 0), (.ref nb), (.int 0), (.ref em)])) rfl rfl (hb hby d7_23) t (by rw [len_of S_3 M_3]; exact k)) ?_
  refine oS (B := T2.setTop (mkF m 25 #[rv em, iv 4, rv nb] [(.int 4), (.int 0), (.int 0), (.ref nb), (.int 0), (.ref em)])) (fun t k => XS.iloadN X2.here hx rfl (hb hby d7_24) rfl k) ?_
  obtain ⟨_, _, ⟨T4, L4, k4, n4⟩, -, X4, ⟨Lc4, hQ4, l4, y4, z4⟩, st4⟩ := Jvm.LawKit.callS X2 hx (y := (⟨"java/lang/Math", "min", "(II)I"⟩ : MethodName)) hown (mvT hZ (ow hw 71 rfl)) (mvT hZ (ow hw 56 rfl)) (mvT hZ (ow hw 57 rfl)) (mvT hZ (ow hw 58 rfl)) (by decide) (backOf (W := 4) (rm8 l Z a0 hw [] (0 : Int32) (4 : Int32)  h2 n0 Z0 ) hZ (ow hw 58 rfl) (ow hw 57 rfl) (by decide) (by decide)) (g := (mkF m 25 #[rv em, iv 4, rv nb] [(.int 4), (.int 0), (.int 0), (.ref nb), (.int 0), (.ref em)])) rfl (by rw [hml]; rfl) (argsL := [(.int 0), (.int 4)]) (rest := [(.int 0), (.ref nb), (.int 0), (.ref em)]) (lenOf pd_1 rfl) rfl (by show 2 * 0 + _ ≤ _; exact Nat.le_of_eq rfl) (hb hby d7_25) (fun _ _ => ⟨rfl, e2, (by decide : 1 + 0 ≤ _), (by decide : 4 + 0 ≤ _)⟩)
  dsimp only [Pt.U, Pt.locs, Pt.cells, Pt.slots] at X4 l4 y4 z4 st4 hQ4
  subst l4 y4 z4
  obtain ⟨rfl, N4q, e4⟩ := hQ4
  have N0 := Fr.app N0 N4q
  refine oS (B := T4.setTop (mkF m 28 #[rv em, iv 4, rv nb] [(.int (own_min (0 : Int32) (4 : Int32))), (.int 0), (.ref nb), (.int 0), (.ref em)])) (fun t k => st4 t k) ?_
  have hlit4 : (own_min (0 : Int32) (4 : Int32)) = (0 : Int32) := by decide
  rw [hlit4]
  obtain ⟨T5, h5, L5, X5, e5, N5q, K5, VC5, st5⟩ := cpA X4 hx hZ hown (ow hw 72 rfl) (ow hw 75 rfl) (ow hw 73 rfl) (ow hw 74 rfl) e4 V_em V_nb (Or.inl ⟨rfl, rfl⟩) (by decide) (by decide) (by decide) (by decide) (by decide) rfl (Nat.zero_le _) N0 g_nb (g := (mkF m 28 #[rv em, iv 4, rv nb] [(.int 0), (.int 0), (.ref nb), (.int 0), (.ref em)])) rfl (by rw [hml]; rfl) rfl (hb hby d7_28) (by decide) (W := 0) (by show 2 * 0 + _ ≤ _; exact Nat.le_of_eq rfl) (by decide)
  have E_em := E_em.keep K5
  have V_em := V_em.keep K5 (ninS ne_em_nb nin0)
  have V_de := V_de.keep K5 (ninS ne_de_nb nin0)
  have E_nb := E_nb.keep K5
  have Z0 := Nat.le_trans Z0 K5.1
  have O0 := O0.keep K5 (allS g_nb all0)
  have K0 := K0.trans K5 (allS (Or.inr sz_nb) all0)
  have N0 := N5q
  have V_nb := VC5
  refine oS (B := T5.setTop (mkF m 31 #[rv em, iv 4, rv nb] [])) (fun t k => st5 t k) ?_
  refine oS (B := T5.setTop (mkF m 32 #[rv em, iv 4, rv nb] [(.ref nb)])) (fun t k => XS.aloadN X5.here hx rfl (hb hby d7_31) rfl rfl k) ?_
  exact own_retA X5 hx hlk Bd.returns (hb hby d7_32) rfl (by decide) (by decide) (by rw [e5]; exact ⟨_, _, _, rfl, N0, K0, g_nb, sz_nb, E_nb, V_nb, own_len0 _ _ _⟩)
theorem ef_rmg_8 (m : MethodId) (x0 : Addr) (x1 : Int32) : entryFrame m #[(.ref x0), (.int x1)] 3 = mkF m 0 #[rv x0, iv x1, .unset] [] := by first | (simp [entryFrame, mkF, argsToLocals, Value.category]; done) | rfl
def QQ_rmg_8 (Z : State)  (em : Addr) (ke : ClassId) (de : Addr) (kd : ClassId) (h0 : Heap) (n0 : Nat) (v : Option Value) (h : Heap) (L : List Loc) : Prop := ∃ (b : Addr) (kb : ClassId) (vb : List Value), v = some (.ref b) ∧ Fr n0 L ∧ Keep h0 h [] ∧ n0 ≤ b ∧ h0.size ≤ b ∧ Exa Z h b "[B" ∧ Arv Z h b kb .byte (8 : Int32) vb (.int 0) ∧ vb.length = 8
set_option maxRecDepth 65536 in
set_option maxHeartbeats 40000000 in
theorem rmg_8 (l : Launch) (Z : State) (a0 : Array Value) (hw : ∀ d ∈ tables_1, d.before a0 Z = true) (ws : List Jvm.Cond)  (em : Addr) (ke : ClassId) (de : Addr) (kd : ClassId) (h0 : Heap) (n0 : Nat) (Z0 : n0 ≤ h0.size) (BB : own_Base Z em ke de kd) (O0 : Old Z n0 h0) :
    MetFree l (⟨"java/util/Arrays", "copyOf", "([BI)[B"⟩ : MethodName) (head1 (Jvm.Cond.code (⟨"java/util/Arrays", "copyOf", "([BI)[B"⟩ : MethodName) jdk_65_method_121_code 3 (some (.array .byte)) :: ws) ({ frames := 1, cells := 1, slots := 8, locals := 60 } : Room)) (fun a U => a = #[(.ref em), (.int 8)] ∧ Z.Warmed39 U.vm ∧ U.heap = h0) (fun _ _ _ _ _ => True) (fun _ U o U' => ∃ v L, o = .returned v ∧ (QQ_rmg_8 Z em ke de kd h0 n0) v U'.heap L ∧ FrameEnd U o U' L ({ frames := 1, cells := 1, slots := 8, locals := 60 } : Room).cells ({ frames := 1, cells := 1, slots := 8, locals := 60 } : Room).slots) := by
  refine MetFree.of_bodySF (plainFor_of_name pn_java_util_Arrays) hisR ?_
  intro p e s m args below meth c s₁ Bd hml0 hP hK
  obtain ⟨rfl, hZ, hh⟩ := hP
  have hx := Bd.exec
  have hby := Bd.bytes
  have hlk : meth.locks = false := BodyLoose.notSynchronized Bd
  have hml : c.maxLocals = 3 := hml0
  have hown : s.vm.findClass "java/util/Arrays" = some m.cls := findClass_of_methodNamed Bd.named
  have hnm := (name_of_methodNamed Bd.named Bd.method).1
  have X0 : Stand p l e ({ frames := 1, cells := 1, slots := 8, locals := 60 } : Room) s m #[(.ref em), (.int 8)] below meth c s₁ [] 0 0 := Stand.of_body Bd
  have e0 : s₁.heap = h0 := by rw [← hh, Bd.state]; rfl
  have N0 := Fr.nil n0
  show own_G p.tables e below s (QQ_rmg_8 Z em ke de kd h0 n0) ({ frames := 1, cells := 1, slots := 8, locals := 60 } : Room).cells ({ frames := 1, cells := 1, slots := 8, locals := 60 } : Room).slots (s₁.setTop (entryFrame m #[(.ref em), (.int 8)] 3))
  refine oS (B := s₁.setTop (mkF m 0 #[rv em, iv 8, .unset] [])) (fun t k => castTop (ef_rmg_8 m em (8 : Int32)) k) ?_
  have V_em := BB.2.2.1.ext O0.2
  have E_em := BB.2.1.ext O0.2
  have V_de := BB.2.2.2.2.ext O0.2
  have K0 := Keep.refl h0 []
  refine oS (B := s₁.setTop (mkF m 1 #[rv em, iv 8, .unset] [(.int 8)])) (fun t k => XS.iloadN X0.here hx rfl (hb hby d7_0) rfl k) ?_
  refine oS (B := s₁.setTop (mkF m 2 #[rv em, iv 8, .unset] [(.ref em), (.int 8)])) (fun t k => XS.aloadN X0.here hx rfl (hb hby d7_1) rfl rfl k) ?_
  have Vo_1 := V_em
  obtain ⟨cl_1, Ar_1, q_1, S_1, M_1, H_1, G_1⟩ := Vo_1
  refine oS (B := s₁.setTop (mkF m 3 #[rv em, iv 8, .unset] [(.int 0), (.int 8)])) (fun t k => X0.arraylength hx (by rw [e0]; exact Ar_1.1) (State.isArrayOf_alike hZ.alike Ar_1.2.1) (g := (mkF m 2 #[rv em, iv 8, .unset] [(.ref em), (.int 8)])) rfl rfl (hb hby d7_2) t (by rw [len_of S_1 M_1]; exact k)) ?_
  refine oS (B := s₁.setTop (mkF m 14 #[rv em, iv 8, .unset] [])) (fun t k => XS.icmpYes X0.here hx rfl (pc0 := 3) (pc' := 14) rfl (hb hby d7_3) rfl (feq (by decide)).2 (by decide) (by decide) k) ?_
  refine oS (B := s₁.setTop (mkF m 15 #[rv em, iv 8, .unset] [(.int 8)])) (fun t k => XS.iloadN X0.here hx rfl (hb hby d7_14) rfl k) ?_
  obtain ⟨T2, h2, k2, X2, e2, E2, A2, EE2, st2⟩ := newPE X0 hx hZ (ow hw 0 rfl) e0 (g := (mkF m 15 #[rv em, iv 8, .unset] [(.int 8)])) rfl (hb hby d7_15) rfl (by decide) (cap := 8) (by decide) (by decide) (by decide) (by decide) (ad := "[B") rfl
  obtain ⟨nb, g2⟩ : ∃ z, z = h0.size := ⟨_, rfl⟩
  rw [← g2] at A2 EE2 st2
  have g_nb : n0 ≤ nb := Nat.le_trans Z0 (Nat.le_of_eq g2.symm)
  have sz_nb : h0.size ≤ nb := Nat.le_trans K0.1 (Nat.le_of_eq g2.symm)
  have ne_em_nb : em ≠ nb := Nat.ne_of_lt (Nat.lt_of_lt_of_le E_em.lt (Nat.le_of_eq g2.symm))
  have ne_de_nb : de ≠ nb := Nat.ne_of_lt (Nat.lt_of_lt_of_le V_de.lt (Nat.le_of_eq g2.symm))
  have E_em := E_em.ext E2
  have V_em := V_em.ext E2
  have V_de := V_de.ext E2
  have Z0 := Nat.le_trans Z0 E2.1
  have O0 := O0.ext E2
  have K0 := K0.ext E2
  have E_nb := EE2
  have K_nb := A2
  have V_nb : Arv Z h2 nb k2 .byte (8 : Int32) ([] ++ List.replicate 8 (.int 0)) (.int 0) := (Arv.new A2 (by decide)).pad (pad_rep [] (.int 0) 8)
  refine oS (B := T2.setTop (mkF m 17 #[rv em, iv 8, .unset] [(.ref nb)])) (fun t k => st2 t k) ?_
  refine oS (B := T2.setTop (mkF m 18 #[rv em, iv 8, rv nb] [])) (fun t k => XS.astoreN X2.here hx rfl (hb hby d7_17) rfl rfl (l' := #[rv em, iv 8, rv nb]) rfl k) ?_
  refine oS (B := T2.setTop (mkF m 19 #[rv em, iv 8, rv nb] [(.ref em)])) (fun t k => XS.aloadN X2.here hx rfl (hb hby d7_18) rfl rfl k) ?_
  refine oS (B := T2.setTop (mkF m 20 #[rv em, iv 8, rv nb] [(.int 0), (.ref em)])) (fun t k => XS.iconst X2.here hx rfl (hb hby d7_19) k) ?_
  refine oS (B := T2.setTop (mkF m 21 #[rv em, iv 8, rv nb] [(.ref nb), (.int 0), (.ref em)])) (fun t k => XS.aloadN X2.here hx rfl (hb hby d7_20) rfl rfl k) ?_
  refine oS (B := T2.setTop (mkF m 22 #[rv em, iv 8, rv nb] [(.int 0), (.ref nb), (.int 0), (.ref em)])) (fun t k => XS.iconst X2.here hx rfl (hb hby d7_21) k) ?_
  refine oS (B := T2.setTop (mkF m 23 #[rv em, iv 8, rv nb] [(.ref em), (.int 0), (.ref nb), (.int 0), (.ref em)])) (fun t k => XS.aloadN X2.here hx rfl (hb hby d7_22) rfl rfl k) ?_
  have Vo_3 := V_em
  obtain ⟨cl_3, Ar_3, q_3, S_3, M_3, H_3, G_3⟩ := Vo_3
  refine oS (B := T2.setTop (mkF m 24 #[rv em, iv 8, rv nb] [(.int 0), (.int 0), (.ref nb), (.int 0), (.ref em)])) (fun t k => X2.arraylength hx (by rw [e2]; exact Ar_3.1) (State.isArrayOf_alike hZ.alike Ar_3.2.1) (g := (mkF m 23 #[rv em, iv 8, rv nb] [(.ref em), (.int 0), (.ref nb), (.int 0), (.ref em)])) rfl rfl (hb hby d7_23) t (by rw [len_of S_3 M_3]; exact k)) ?_
  refine oS (B := T2.setTop (mkF m 25 #[rv em, iv 8, rv nb] [(.int 8), (.int 0), (.int 0), (.ref nb), (.int 0), (.ref em)])) (fun t k => XS.iloadN X2.here hx rfl (hb hby d7_24) rfl k) ?_
  obtain ⟨_, _, ⟨T4, L4, k4, n4⟩, -, X4, ⟨Lc4, hQ4, l4, y4, z4⟩, st4⟩ := Jvm.LawKit.callS X2 hx (y := (⟨"java/lang/Math", "min", "(II)I"⟩ : MethodName)) hown (mvT hZ (ow hw 71 rfl)) (mvT hZ (ow hw 56 rfl)) (mvT hZ (ow hw 57 rfl)) (mvT hZ (ow hw 58 rfl)) (by decide) (backOf (W := 4) (rm8 l Z a0 hw [] (0 : Int32) (8 : Int32)  h2 n0 Z0 ) hZ (ow hw 58 rfl) (ow hw 57 rfl) (by decide) (by decide)) (g := (mkF m 25 #[rv em, iv 8, rv nb] [(.int 8), (.int 0), (.int 0), (.ref nb), (.int 0), (.ref em)])) rfl (by rw [hml]; rfl) (argsL := [(.int 0), (.int 8)]) (rest := [(.int 0), (.ref nb), (.int 0), (.ref em)]) (lenOf pd_1 rfl) rfl (by show 2 * 0 + _ ≤ _; exact Nat.le_of_eq rfl) (hb hby d7_25) (fun _ _ => ⟨rfl, e2, (by decide : 1 + 0 ≤ _), (by decide : 8 + 0 ≤ _)⟩)
  dsimp only [Pt.U, Pt.locs, Pt.cells, Pt.slots] at X4 l4 y4 z4 st4 hQ4
  subst l4 y4 z4
  obtain ⟨rfl, N4q, e4⟩ := hQ4
  have N0 := Fr.app N0 N4q
  refine oS (B := T4.setTop (mkF m 28 #[rv em, iv 8, rv nb] [(.int (own_min (0 : Int32) (8 : Int32))), (.int 0), (.ref nb), (.int 0), (.ref em)])) (fun t k => st4 t k) ?_
  have hlit4 : (own_min (0 : Int32) (8 : Int32)) = (0 : Int32) := by decide
  rw [hlit4]
  obtain ⟨T5, h5, L5, X5, e5, N5q, K5, VC5, st5⟩ := cpA X4 hx hZ hown (ow hw 72 rfl) (ow hw 75 rfl) (ow hw 73 rfl) (ow hw 74 rfl) e4 V_em V_nb (Or.inl ⟨rfl, rfl⟩) (by decide) (by decide) (by decide) (by decide) (by decide) rfl (Nat.zero_le _) N0 g_nb (g := (mkF m 28 #[rv em, iv 8, rv nb] [(.int 0), (.int 0), (.ref nb), (.int 0), (.ref em)])) rfl (by rw [hml]; rfl) rfl (hb hby d7_28) (by decide) (W := 0) (by show 2 * 0 + _ ≤ _; exact Nat.le_of_eq rfl) (by decide)
  have E_em := E_em.keep K5
  have V_em := V_em.keep K5 (ninS ne_em_nb nin0)
  have V_de := V_de.keep K5 (ninS ne_de_nb nin0)
  have E_nb := E_nb.keep K5
  have Z0 := Nat.le_trans Z0 K5.1
  have O0 := O0.keep K5 (allS g_nb all0)
  have K0 := K0.trans K5 (allS (Or.inr sz_nb) all0)
  have N0 := N5q
  have V_nb := VC5
  refine oS (B := T5.setTop (mkF m 31 #[rv em, iv 8, rv nb] [])) (fun t k => st5 t k) ?_
  refine oS (B := T5.setTop (mkF m 32 #[rv em, iv 8, rv nb] [(.ref nb)])) (fun t k => XS.aloadN X5.here hx rfl (hb hby d7_31) rfl rfl k) ?_
  exact own_retA X5 hx hlk Bd.returns (hb hby d7_32) rfl (by decide) (by decide) (by rw [e5]; exact ⟨_, _, _, rfl, N0, K0, g_nb, sz_nb, E_nb, V_nb, own_len0 _ _ _⟩)
theorem ef_rmg_65536 (m : MethodId) (x0 : Addr) (x1 : Int32) : entryFrame m #[(.ref x0), (.int x1)] 3 = mkF m 0 #[rv x0, iv x1, .unset] [] := by first | (simp [entryFrame, mkF, argsToLocals, Value.category]; done) | rfl
def QQ_rmg_65536 (Z : State)  (em : Addr) (ke : ClassId) (de : Addr) (kd : ClassId) (h0 : Heap) (n0 : Nat) (v : Option Value) (h : Heap) (L : List Loc) : Prop := ∃ (b : Addr) (kb : ClassId) (vb : List Value), v = some (.ref b) ∧ Fr n0 L ∧ Keep h0 h [] ∧ n0 ≤ b ∧ h0.size ≤ b ∧ Exa Z h b "[B" ∧ Arv Z h b kb .byte (65536 : Int32) vb (.int 0) ∧ vb.length = 65536
set_option maxRecDepth 65536 in
set_option maxHeartbeats 40000000 in
theorem rmg_65536 (l : Launch) (Z : State) (a0 : Array Value) (hw : ∀ d ∈ tables_1, d.before a0 Z = true) (ws : List Jvm.Cond)  (em : Addr) (ke : ClassId) (de : Addr) (kd : ClassId) (h0 : Heap) (n0 : Nat) (Z0 : n0 ≤ h0.size) (BB : own_Base Z em ke de kd) (O0 : Old Z n0 h0) :
    MetFree l (⟨"java/util/Arrays", "copyOf", "([BI)[B"⟩ : MethodName) (head1 (Jvm.Cond.code (⟨"java/util/Arrays", "copyOf", "([BI)[B"⟩ : MethodName) jdk_65_method_121_code 3 (some (.array .byte)) :: ws) ({ frames := 1, cells := 1, slots := 65536, locals := 60 } : Room)) (fun a U => a = #[(.ref em), (.int 65536)] ∧ Z.Warmed39 U.vm ∧ U.heap = h0) (fun _ _ _ _ _ => True) (fun _ U o U' => ∃ v L, o = .returned v ∧ (QQ_rmg_65536 Z em ke de kd h0 n0) v U'.heap L ∧ FrameEnd U o U' L ({ frames := 1, cells := 1, slots := 65536, locals := 60 } : Room).cells ({ frames := 1, cells := 1, slots := 65536, locals := 60 } : Room).slots) := by
  refine MetFree.of_bodySF (plainFor_of_name pn_java_util_Arrays) hisR ?_
  intro p e s m args below meth c s₁ Bd hml0 hP hK
  obtain ⟨rfl, hZ, hh⟩ := hP
  have hx := Bd.exec
  have hby := Bd.bytes
  have hlk : meth.locks = false := BodyLoose.notSynchronized Bd
  have hml : c.maxLocals = 3 := hml0
  have hown : s.vm.findClass "java/util/Arrays" = some m.cls := findClass_of_methodNamed Bd.named
  have hnm := (name_of_methodNamed Bd.named Bd.method).1
  have X0 : Stand p l e ({ frames := 1, cells := 1, slots := 65536, locals := 60 } : Room) s m #[(.ref em), (.int 65536)] below meth c s₁ [] 0 0 := Stand.of_body Bd
  have e0 : s₁.heap = h0 := by rw [← hh, Bd.state]; rfl
  have N0 := Fr.nil n0
  show own_G p.tables e below s (QQ_rmg_65536 Z em ke de kd h0 n0) ({ frames := 1, cells := 1, slots := 65536, locals := 60 } : Room).cells ({ frames := 1, cells := 1, slots := 65536, locals := 60 } : Room).slots (s₁.setTop (entryFrame m #[(.ref em), (.int 65536)] 3))
  refine oS (B := s₁.setTop (mkF m 0 #[rv em, iv 65536, .unset] [])) (fun t k => castTop (ef_rmg_65536 m em (65536 : Int32)) k) ?_
  have V_em := BB.2.2.1.ext O0.2
  have E_em := BB.2.1.ext O0.2
  have V_de := BB.2.2.2.2.ext O0.2
  have K0 := Keep.refl h0 []
  refine oS (B := s₁.setTop (mkF m 1 #[rv em, iv 65536, .unset] [(.int 65536)])) (fun t k => XS.iloadN X0.here hx rfl (hb hby d7_0) rfl k) ?_
  refine oS (B := s₁.setTop (mkF m 2 #[rv em, iv 65536, .unset] [(.ref em), (.int 65536)])) (fun t k => XS.aloadN X0.here hx rfl (hb hby d7_1) rfl rfl k) ?_
  have Vo_1 := V_em
  obtain ⟨cl_1, Ar_1, q_1, S_1, M_1, H_1, G_1⟩ := Vo_1
  refine oS (B := s₁.setTop (mkF m 3 #[rv em, iv 65536, .unset] [(.int 0), (.int 65536)])) (fun t k => X0.arraylength hx (by rw [e0]; exact Ar_1.1) (State.isArrayOf_alike hZ.alike Ar_1.2.1) (g := (mkF m 2 #[rv em, iv 65536, .unset] [(.ref em), (.int 65536)])) rfl rfl (hb hby d7_2) t (by rw [len_of S_1 M_1]; exact k)) ?_
  refine oS (B := s₁.setTop (mkF m 14 #[rv em, iv 65536, .unset] [])) (fun t k => XS.icmpYes X0.here hx rfl (pc0 := 3) (pc' := 14) rfl (hb hby d7_3) rfl (feq (by decide)).2 (by decide) (by decide) k) ?_
  refine oS (B := s₁.setTop (mkF m 15 #[rv em, iv 65536, .unset] [(.int 65536)])) (fun t k => XS.iloadN X0.here hx rfl (hb hby d7_14) rfl k) ?_
  obtain ⟨T2, h2, k2, X2, e2, E2, A2, EE2, st2⟩ := newPE X0 hx hZ (ow hw 0 rfl) e0 (g := (mkF m 15 #[rv em, iv 65536, .unset] [(.int 65536)])) rfl (hb hby d7_15) rfl (by decide) (cap := 65536) (by decide) (by decide) (by decide) (by decide) (ad := "[B") rfl
  obtain ⟨nb, g2⟩ : ∃ z, z = h0.size := ⟨_, rfl⟩
  rw [← g2] at A2 EE2 st2
  have g_nb : n0 ≤ nb := Nat.le_trans Z0 (Nat.le_of_eq g2.symm)
  have sz_nb : h0.size ≤ nb := Nat.le_trans K0.1 (Nat.le_of_eq g2.symm)
  have ne_em_nb : em ≠ nb := Nat.ne_of_lt (Nat.lt_of_lt_of_le E_em.lt (Nat.le_of_eq g2.symm))
  have ne_de_nb : de ≠ nb := Nat.ne_of_lt (Nat.lt_of_lt_of_le V_de.lt (Nat.le_of_eq g2.symm))
  have E_em := E_em.ext E2
  have V_em := V_em.ext E2
  have V_de := V_de.ext E2
  have Z0 := Nat.le_trans Z0 E2.1
  have O0 := O0.ext E2
  have K0 := K0.ext E2
  have E_nb := EE2
  have K_nb := A2
  have V_nb : Arv Z h2 nb k2 .byte (65536 : Int32) ([] ++ List.replicate 65536 (.int 0)) (.int 0) := (Arv.new A2 (by decide)).pad (pad_rep [] (.int 0) 65536)
  refine oS (B := T2.setTop (mkF m 17 #[rv em, iv 65536, .unset] [(.ref nb)])) (fun t k => st2 t k) ?_
  refine oS (B := T2.setTop (mkF m 18 #[rv em, iv 65536, rv nb] [])) (fun t k => XS.astoreN X2.here hx rfl (hb hby d7_17) rfl rfl (l' := #[rv em, iv 65536, rv nb]) rfl k) ?_
  refine oS (B := T2.setTop (mkF m 19 #[rv em, iv 65536, rv nb] [(.ref em)])) (fun t k => XS.aloadN X2.here hx rfl (hb hby d7_18) rfl rfl k) ?_
  refine oS (B := T2.setTop (mkF m 20 #[rv em, iv 65536, rv nb] [(.int 0), (.ref em)])) (fun t k => XS.iconst X2.here hx rfl (hb hby d7_19) k) ?_
  refine oS (B := T2.setTop (mkF m 21 #[rv em, iv 65536, rv nb] [(.ref nb), (.int 0), (.ref em)])) (fun t k => XS.aloadN X2.here hx rfl (hb hby d7_20) rfl rfl k) ?_
  refine oS (B := T2.setTop (mkF m 22 #[rv em, iv 65536, rv nb] [(.int 0), (.ref nb), (.int 0), (.ref em)])) (fun t k => XS.iconst X2.here hx rfl (hb hby d7_21) k) ?_
  refine oS (B := T2.setTop (mkF m 23 #[rv em, iv 65536, rv nb] [(.ref em), (.int 0), (.ref nb), (.int 0), (.ref em)])) (fun t k => XS.aloadN X2.here hx rfl (hb hby d7_22) rfl rfl k) ?_
  have Vo_3 := V_em
  obtain ⟨cl_3, Ar_3, q_3, S_3, M_3, H_3, G_3⟩ := Vo_3
  refine oS (B := T2.setTop (mkF m 24 #[rv em, iv 65536, rv nb] [(.int 0), (.int 0), (.ref nb), (.int 0), (.ref em)])) (fun t k => X2.arraylength hx (by rw [e2]; exact Ar_3.1) (State.isArrayOf_alike hZ.alike Ar_3.2.1) (g := (mkF m 23 #[rv em, iv 65536, rv nb] [(.ref em), (.int 0), (.ref nb), (.int 0), (.ref em)])) rfl rfl (hb hby d7_23) t (by rw [len_of S_3 M_3]; exact k)) ?_
  refine oS (B := T2.setTop (mkF m 25 #[rv em, iv 65536, rv nb] [(.int 65536), (.int 0), (.int 0), (.ref nb), (.int 0), (.ref em)])) (fun t k => XS.iloadN X2.here hx rfl (hb hby d7_24) rfl k) ?_
  obtain ⟨_, _, ⟨T4, L4, k4, n4⟩, -, X4, ⟨Lc4, hQ4, l4, y4, z4⟩, st4⟩ := Jvm.LawKit.callS X2 hx (y := (⟨"java/lang/Math", "min", "(II)I"⟩ : MethodName)) hown (mvT hZ (ow hw 71 rfl)) (mvT hZ (ow hw 56 rfl)) (mvT hZ (ow hw 57 rfl)) (mvT hZ (ow hw 58 rfl)) (by decide) (backOf (W := 4) (rm8 l Z a0 hw [] (0 : Int32) (65536 : Int32)  h2 n0 Z0 ) hZ (ow hw 58 rfl) (ow hw 57 rfl) (by decide) (by decide)) (g := (mkF m 25 #[rv em, iv 65536, rv nb] [(.int 65536), (.int 0), (.int 0), (.ref nb), (.int 0), (.ref em)])) rfl (by rw [hml]; rfl) (argsL := [(.int 0), (.int 65536)]) (rest := [(.int 0), (.ref nb), (.int 0), (.ref em)]) (lenOf pd_1 rfl) rfl (by show 2 * 0 + _ ≤ _; exact Nat.le_of_eq rfl) (hb hby d7_25) (fun _ _ => ⟨rfl, e2, (by decide : 1 + 0 ≤ _), (by decide : 65536 + 0 ≤ _)⟩)
  dsimp only [Pt.U, Pt.locs, Pt.cells, Pt.slots] at X4 l4 y4 z4 st4 hQ4
  subst l4 y4 z4
  obtain ⟨rfl, N4q, e4⟩ := hQ4
  have N0 := Fr.app N0 N4q
  refine oS (B := T4.setTop (mkF m 28 #[rv em, iv 65536, rv nb] [(.int (own_min (0 : Int32) (65536 : Int32))), (.int 0), (.ref nb), (.int 0), (.ref em)])) (fun t k => st4 t k) ?_
  have hlit4 : (own_min (0 : Int32) (65536 : Int32)) = (0 : Int32) := by decide
  rw [hlit4]
  obtain ⟨T5, h5, L5, X5, e5, N5q, K5, VC5, st5⟩ := cpA X4 hx hZ hown (ow hw 72 rfl) (ow hw 75 rfl) (ow hw 73 rfl) (ow hw 74 rfl) e4 V_em V_nb (Or.inl ⟨rfl, rfl⟩) (by decide) (by decide) (by decide) (by decide) (by decide) rfl (Nat.zero_le _) N0 g_nb (g := (mkF m 28 #[rv em, iv 65536, rv nb] [(.int 0), (.int 0), (.ref nb), (.int 0), (.ref em)])) rfl (by rw [hml]; rfl) rfl (hb hby d7_28) (by decide) (W := 0) (by show 2 * 0 + _ ≤ _; exact Nat.le_of_eq rfl) (by decide)
  have E_em := E_em.keep K5
  have V_em := V_em.keep K5 (ninS ne_em_nb nin0)
  have V_de := V_de.keep K5 (ninS ne_de_nb nin0)
  have E_nb := E_nb.keep K5
  have Z0 := Nat.le_trans Z0 K5.1
  have O0 := O0.keep K5 (allS g_nb all0)
  have K0 := K0.trans K5 (allS (Or.inr sz_nb) all0)
  have N0 := N5q
  have V_nb := VC5
  refine oS (B := T5.setTop (mkF m 31 #[rv em, iv 65536, rv nb] [])) (fun t k => st5 t k) ?_
  refine oS (B := T5.setTop (mkF m 32 #[rv em, iv 65536, rv nb] [(.ref nb)])) (fun t k => XS.aloadN X5.here hx rfl (hb hby d7_31) rfl rfl k) ?_
  exact own_retA X5 hx hlk Bd.returns (hb hby d7_32) rfl (by decide) (by decide) (by rw [e5]; exact ⟨_, _, _, rfl, N0, K0, g_nb, sz_nb, E_nb, V_nb, own_len0 _ _ _⟩)
theorem d7_6 : decode jdk_65_method_121_code 6 = .ok (.aload_n 0, 1) := by decide +kernel
theorem d7_7 : decode jdk_65_method_121_code 7 = .ok (.invokevirtual 310, 3) := by decide +kernel
theorem d7_10 : decode jdk_65_method_121_code 10 = .ok (.checkcast 311, 3) := by decide +kernel
theorem d7_13 : decode jdk_65_method_121_code 13 = .ok (.areturn, 1) := by decide +kernel
theorem ef_rmc (m : MethodId) (x0 : Addr) (x1 : Int32) : entryFrame m #[(.ref x0), (.int x1)] 3 = mkF m 0 #[rv x0, iv x1, .unset] [] := by first | (simp [entryFrame, mkF, argsToLocals, Value.category]; done) | rfl
def QQ_rmc (Z : State) (sa : Addr) (nn : Int32) (ks : ClassId) (vs : List Value) (h0 : Heap) (n0 : Nat) (v : Option Value) (h : Heap) (L : List Loc) : Prop := ∃ b : Addr, v = some (.ref b) ∧ Fr n0 L ∧ Keep h0 h [] ∧ n0 ≤ b ∧ h0.size ≤ b ∧ Arv Z h b ks .byte nn vs (.int 0)
set_option maxRecDepth 65536 in
set_option maxHeartbeats 40000000 in
theorem rmc (l : Launch) (Z : State) (a0 : Array Value) (hw : ∀ d ∈ tables_1, d.before a0 Z = true) (ws : List Jvm.Cond) (sa : Addr) (nn : Int32) (ks : ClassId) (vs : List Value) (h0 : Heap) (n0 : Nat) (Z0 : n0 ≤ h0.size) (E_sa : Exa Z h0 sa "[B") (V_sa : Arv Z h0 sa ks .byte nn vs (.int 0)) (hn : (nn).toNatClampNeg ≤ 2) :
    MetFree l (⟨"java/util/Arrays", "copyOf", "([BI)[B"⟩ : MethodName) (head1 (Jvm.Cond.code (⟨"java/util/Arrays", "copyOf", "([BI)[B"⟩ : MethodName) jdk_65_method_121_code 3 (some (.array .byte)) :: ws) ({ frames := 1, cells := 1, slots := 2, locals := 60 } : Room)) (fun a U => a = #[(.ref sa), (.int nn)] ∧ Z.Warmed39 U.vm ∧ U.heap = h0) (fun _ _ _ _ _ => True) (fun _ U o U' => ∃ v L, o = .returned v ∧ (QQ_rmc Z sa nn ks vs h0 n0) v U'.heap L ∧ FrameEnd U o U' L ({ frames := 1, cells := 1, slots := 2, locals := 60 } : Room).cells ({ frames := 1, cells := 1, slots := 2, locals := 60 } : Room).slots) := by
  refine MetFree.of_bodySF (plainFor_of_name pn_java_util_Arrays) hisR ?_
  intro p e s m args below meth c s₁ Bd hml0 hP hK
  obtain ⟨rfl, hZ, hh⟩ := hP
  have hx := Bd.exec
  have hby := Bd.bytes
  have hlk : meth.locks = false := BodyLoose.notSynchronized Bd
  have hml : c.maxLocals = 3 := hml0
  have hown : s.vm.findClass "java/util/Arrays" = some m.cls := findClass_of_methodNamed Bd.named
  have hnm := (name_of_methodNamed Bd.named Bd.method).1
  have X0 : Stand p l e ({ frames := 1, cells := 1, slots := 2, locals := 60 } : Room) s m #[(.ref sa), (.int nn)] below meth c s₁ [] 0 0 := Stand.of_body Bd
  have e0 : s₁.heap = h0 := by rw [← hh, Bd.state]; rfl
  have N0 := Fr.nil n0
  show own_G p.tables e below s (QQ_rmc Z sa nn ks vs h0 n0) ({ frames := 1, cells := 1, slots := 2, locals := 60 } : Room).cells ({ frames := 1, cells := 1, slots := 2, locals := 60 } : Room).slots (s₁.setTop (entryFrame m #[(.ref sa), (.int nn)] 3))
  refine oS (B := s₁.setTop (mkF m 0 #[rv sa, iv nn, .unset] [])) (fun t k => castTop (ef_rmc m sa nn) k) ?_
  have K0 := Keep.refl h0 []
  refine oS (B := s₁.setTop (mkF m 1 #[rv sa, iv nn, .unset] [(.int nn)])) (fun t k => XS.iloadN X0.here hx rfl (hb hby d7_0) rfl k) ?_
  refine oS (B := s₁.setTop (mkF m 2 #[rv sa, iv nn, .unset] [(.ref sa), (.int nn)])) (fun t k => XS.aloadN X0.here hx rfl (hb hby d7_1) rfl rfl k) ?_
  have Vo_1 := V_sa
  obtain ⟨cl_1, Ar_1, q_1, S_1, M_1, H_1, G_1⟩ := Vo_1
  refine oS (B := s₁.setTop (mkF m 3 #[rv sa, iv nn, .unset] [(.int nn), (.int nn)])) (fun t k => X0.arraylength hx (by rw [e0]; exact Ar_1.1) (State.isArrayOf_alike hZ.alike Ar_1.2.1) (g := (mkF m 2 #[rv sa, iv nn, .unset] [(.ref sa), (.int nn)])) rfl rfl (hb hby d7_2) t (by rw [len_of S_1 M_1]; exact k)) ?_
  refine oS (B := s₁.setTop (mkF m 6 #[rv sa, iv nn, .unset] [])) (fun t k => XS.icmpNo X0.here hx rfl (hb hby d7_3) rfl (teq rfl).2 k) ?_
  refine oS (B := s₁.setTop (mkF m 7 #[rv sa, iv nn, .unset] [(.ref sa)])) (fun t k => XS.aloadN X0.here hx rfl (hb hby d7_6) rfl rfl k) ?_
  obtain ⟨T2, h2, X2, e2, E2, A2, EE2, st2⟩ := cloneH X0 hx hZ hown (ow hw 44 rfl) (ow hw 45 rfl) (ow hw 49 rfl) (ow hw 47 rfl) (ow hw 48 rfl) (ow hw 50 rfl) e0 V_sa.arh E_sa (g := (mkF m 7 #[rv sa, iv nn, .unset] [(.ref sa)])) rfl (by rw [hml]; rfl) rfl (hb hby d7_7) (by decide) (W := 0) (cap := 2) (by show 2 * 0 + _ ≤ _; exact Nat.le_of_eq rfl) (by decide) hn (by decide) (by decide)
  obtain ⟨nb, g2⟩ : ∃ z, z = h0.size := ⟨_, rfl⟩
  rw [← g2] at A2 EE2 st2
  have g_nb : n0 ≤ nb := Nat.le_trans Z0 (Nat.le_of_eq g2.symm)
  have sz_nb : h0.size ≤ nb := Nat.le_trans K0.1 (Nat.le_of_eq g2.symm)
  have ne_sa_nb : sa ≠ nb := Nat.ne_of_lt (Nat.lt_of_lt_of_le E_sa.lt (Nat.le_of_eq g2.symm))
  have E_sa := E_sa.ext E2
  have V_sa := V_sa.ext E2
  have Z0 := Nat.le_trans Z0 E2.1
  have K0 := K0.ext E2
  have E_nb := EE2
  have V_nb : Arv Z h2 nb ks .byte nn vs (.int 0) := A2
  refine oS (B := T2.setTop (mkF m 10 #[rv sa, iv nn, .unset] [(.ref nb)])) (fun t k => st2 t k) ?_
  obtain ⟨T3, X3, e3, st3⟩ := castY X2 hx hZ hown (ow hw 51 rfl) e2 (Ins.self E_nb) (g := (mkF m 10 #[rv sa, iv nn, .unset] [(.ref nb)])) rfl rfl (hb hby d7_10)
  refine oS (B := T3.setTop (mkF m 13 #[rv sa, iv nn, .unset] [(.ref nb)])) (fun t k => st3 t k) ?_
  exact own_retA X3 hx hlk Bd.returns (hb hby d7_13) rfl (by decide) (by decide) (by rw [e3]; exact ⟨_, rfl, N0, K0, g_nb, sz_nb, V_nb⟩)
theorem ef_rmt (m : MethodId) (x0 : Addr) (x1 : Int32) : entryFrame m #[(.ref x0), (.int x1)] 3 = mkF m 0 #[rv x0, iv x1, .unset] [] := by first | (simp [entryFrame, mkF, argsToLocals, Value.category]; done) | rfl
def QQ_rmt (Z : State) (sa : Addr) (ks : ClassId) (vs : List Value) (h0 : Heap) (n0 : Nat) (v : Option Value) (h : Heap) (L : List Loc) : Prop := ∃ (b : Addr) (kb : ClassId) (vb : List Value), v = some (.ref b) ∧ Fr n0 L ∧ Keep h0 h [] ∧ n0 ≤ b ∧ h0.size ≤ b ∧ Arv Z h b kb .byte (3 : Int32) vb (.int 0) ∧ ∀ i, i < 3 → vb.getD i (.int 0) = vs.getD i (.int 0)
set_option maxRecDepth 65536 in
set_option maxHeartbeats 40000000 in
theorem rmt (l : Launch) (Z : State) (a0 : Array Value) (hw : ∀ d ∈ tables_1, d.before a0 Z = true) (ws : List Jvm.Cond) (sa : Addr) (ks : ClassId) (vs : List Value) (h0 : Heap) (n0 : Nat) (Z0 : n0 ≤ h0.size) (V_sa : Arv Z h0 sa ks .byte (4 : Int32) vs (.int 0)) :
    MetFree l (⟨"java/util/Arrays", "copyOf", "([BI)[B"⟩ : MethodName) (head1 (Jvm.Cond.code (⟨"java/util/Arrays", "copyOf", "([BI)[B"⟩ : MethodName) jdk_65_method_121_code 3 (some (.array .byte)) :: ws) ({ frames := 1, cells := 1, slots := 3, locals := 60 } : Room)) (fun a U => a = #[(.ref sa), (.int 3)] ∧ Z.Warmed39 U.vm ∧ U.heap = h0) (fun _ _ _ _ _ => True) (fun _ U o U' => ∃ v L, o = .returned v ∧ (QQ_rmt Z sa ks vs h0 n0) v U'.heap L ∧ FrameEnd U o U' L ({ frames := 1, cells := 1, slots := 3, locals := 60 } : Room).cells ({ frames := 1, cells := 1, slots := 3, locals := 60 } : Room).slots) := by
  refine MetFree.of_bodySF (plainFor_of_name pn_java_util_Arrays) hisR ?_
  intro p e s m args below meth c s₁ Bd hml0 hP hK
  obtain ⟨rfl, hZ, hh⟩ := hP
  have hx := Bd.exec
  have hby := Bd.bytes
  have hlk : meth.locks = false := BodyLoose.notSynchronized Bd
  have hml : c.maxLocals = 3 := hml0
  have hown : s.vm.findClass "java/util/Arrays" = some m.cls := findClass_of_methodNamed Bd.named
  have hnm := (name_of_methodNamed Bd.named Bd.method).1
  have X0 : Stand p l e ({ frames := 1, cells := 1, slots := 3, locals := 60 } : Room) s m #[(.ref sa), (.int 3)] below meth c s₁ [] 0 0 := Stand.of_body Bd
  have e0 : s₁.heap = h0 := by rw [← hh, Bd.state]; rfl
  have N0 := Fr.nil n0
  show own_G p.tables e below s (QQ_rmt Z sa ks vs h0 n0) ({ frames := 1, cells := 1, slots := 3, locals := 60 } : Room).cells ({ frames := 1, cells := 1, slots := 3, locals := 60 } : Room).slots (s₁.setTop (entryFrame m #[(.ref sa), (.int 3)] 3))
  refine oS (B := s₁.setTop (mkF m 0 #[rv sa, iv 3, .unset] [])) (fun t k => castTop (ef_rmt m sa (3 : Int32)) k) ?_
  have K0 := Keep.refl h0 []
  refine oS (B := s₁.setTop (mkF m 1 #[rv sa, iv 3, .unset] [(.int 3)])) (fun t k => XS.iloadN X0.here hx rfl (hb hby d7_0) rfl k) ?_
  refine oS (B := s₁.setTop (mkF m 2 #[rv sa, iv 3, .unset] [(.ref sa), (.int 3)])) (fun t k => XS.aloadN X0.here hx rfl (hb hby d7_1) rfl rfl k) ?_
  have Vo_1 := V_sa
  obtain ⟨cl_1, Ar_1, q_1, S_1, M_1, H_1, G_1⟩ := Vo_1
  refine oS (B := s₁.setTop (mkF m 3 #[rv sa, iv 3, .unset] [(.int 4), (.int 3)])) (fun t k => X0.arraylength hx (by rw [e0]; exact Ar_1.1) (State.isArrayOf_alike hZ.alike Ar_1.2.1) (g := (mkF m 2 #[rv sa, iv 3, .unset] [(.ref sa), (.int 3)])) rfl rfl (hb hby d7_2) t (by rw [len_of S_1 M_1]; exact k)) ?_
  refine oS (B := s₁.setTop (mkF m 14 #[rv sa, iv 3, .unset] [])) (fun t k => XS.icmpYes X0.here hx rfl (pc0 := 3) (pc' := 14) rfl (hb hby d7_3) rfl (feq (by decide)).2 (by decide) (by decide) k) ?_
  refine oS (B := s₁.setTop (mkF m 15 #[rv sa, iv 3, .unset] [(.int 3)])) (fun t k => XS.iloadN X0.here hx rfl (hb hby d7_14) rfl k) ?_
  obtain ⟨T2, h2, k2, X2, e2, E2, A2, EE2, st2⟩ := newPE X0 hx hZ (ow hw 0 rfl) e0 (g := (mkF m 15 #[rv sa, iv 3, .unset] [(.int 3)])) rfl (hb hby d7_15) rfl (by decide) (cap := 3) (by decide) (by decide) (by decide) (by decide) (ad := "[B") rfl
  obtain ⟨nb, g2⟩ : ∃ z, z = h0.size := ⟨_, rfl⟩
  rw [← g2] at A2 EE2 st2
  have g_nb : n0 ≤ nb := Nat.le_trans Z0 (Nat.le_of_eq g2.symm)
  have sz_nb : h0.size ≤ nb := Nat.le_trans K0.1 (Nat.le_of_eq g2.symm)
  have ne_sa_nb : sa ≠ nb := Nat.ne_of_lt (Nat.lt_of_lt_of_le V_sa.lt (Nat.le_of_eq g2.symm))
  have V_sa := V_sa.ext E2
  have Z0 := Nat.le_trans Z0 E2.1
  have K0 := K0.ext E2
  have E_nb := EE2
  have K_nb := A2
  have V_nb : Arv Z h2 nb k2 .byte (3 : Int32) ([] ++ List.replicate 3 (.int 0)) (.int 0) := (Arv.new A2 (by decide)).pad (pad_rep [] (.int 0) 3)
  refine oS (B := T2.setTop (mkF m 17 #[rv sa, iv 3, .unset] [(.ref nb)])) (fun t k => st2 t k) ?_
  refine oS (B := T2.setTop (mkF m 18 #[rv sa, iv 3, rv nb] [])) (fun t k => XS.astoreN X2.here hx rfl (hb hby d7_17) rfl rfl (l' := #[rv sa, iv 3, rv nb]) rfl k) ?_
  refine oS (B := T2.setTop (mkF m 19 #[rv sa, iv 3, rv nb] [(.ref sa)])) (fun t k => XS.aloadN X2.here hx rfl (hb hby d7_18) rfl rfl k) ?_
  refine oS (B := T2.setTop (mkF m 20 #[rv sa, iv 3, rv nb] [(.int 0), (.ref sa)])) (fun t k => XS.iconst X2.here hx rfl (hb hby d7_19) k) ?_
  refine oS (B := T2.setTop (mkF m 21 #[rv sa, iv 3, rv nb] [(.ref nb), (.int 0), (.ref sa)])) (fun t k => XS.aloadN X2.here hx rfl (hb hby d7_20) rfl rfl k) ?_
  refine oS (B := T2.setTop (mkF m 22 #[rv sa, iv 3, rv nb] [(.int 0), (.ref nb), (.int 0), (.ref sa)])) (fun t k => XS.iconst X2.here hx rfl (hb hby d7_21) k) ?_
  refine oS (B := T2.setTop (mkF m 23 #[rv sa, iv 3, rv nb] [(.ref sa), (.int 0), (.ref nb), (.int 0), (.ref sa)])) (fun t k => XS.aloadN X2.here hx rfl (hb hby d7_22) rfl rfl k) ?_
  have Vo_3 := V_sa
  obtain ⟨cl_3, Ar_3, q_3, S_3, M_3, H_3, G_3⟩ := Vo_3
  refine oS (B := T2.setTop (mkF m 24 #[rv sa, iv 3, rv nb] [(.int 4), (.int 0), (.ref nb), (.int 0), (.ref sa)])) (fun t k => X2.arraylength hx (by rw [e2]; exact Ar_3.1) (State.isArrayOf_alike hZ.alike Ar_3.2.1) (g := (mkF m 23 #[rv sa, iv 3, rv nb] [(.ref sa), (.int 0), (.ref nb), (.int 0), (.ref sa)])) rfl rfl (hb hby d7_23) t (by rw [len_of S_3 M_3]; exact k)) ?_
  refine oS (B := T2.setTop (mkF m 25 #[rv sa, iv 3, rv nb] [(.int 3), (.int 4), (.int 0), (.ref nb), (.int 0), (.ref sa)])) (fun t k => XS.iloadN X2.here hx rfl (hb hby d7_24) rfl k) ?_
  obtain ⟨_, _, ⟨T4, L4, k4, n4⟩, -, X4, ⟨Lc4, hQ4, l4, y4, z4⟩, st4⟩ := Jvm.LawKit.callS X2 hx (y := (⟨"java/lang/Math", "min", "(II)I"⟩ : MethodName)) hown (mvT hZ (ow hw 71 rfl)) (mvT hZ (ow hw 56 rfl)) (mvT hZ (ow hw 57 rfl)) (mvT hZ (ow hw 58 rfl)) (by decide) (backOf (W := 4) (rm8 l Z a0 hw [] (4 : Int32) (3 : Int32)  h2 n0 Z0 ) hZ (ow hw 58 rfl) (ow hw 57 rfl) (by decide) (by decide)) (g := (mkF m 25 #[rv sa, iv 3, rv nb] [(.int 3), (.int 4), (.int 0), (.ref nb), (.int 0), (.ref sa)])) rfl (by rw [hml]; rfl) (argsL := [(.int 4), (.int 3)]) (rest := [(.int 0), (.ref nb), (.int 0), (.ref sa)]) (lenOf pd_1 rfl) rfl (by show 2 * 0 + _ ≤ _; exact Nat.le_of_eq rfl) (hb hby d7_25) (fun _ _ => ⟨rfl, e2, (by decide : 1 + 0 ≤ _), (by decide : 3 + 0 ≤ _)⟩)
  dsimp only [Pt.U, Pt.locs, Pt.cells, Pt.slots] at X4 l4 y4 z4 st4 hQ4
  subst l4 y4 z4
  obtain ⟨rfl, N4q, e4⟩ := hQ4
  have N0 := Fr.app N0 N4q
  refine oS (B := T4.setTop (mkF m 28 #[rv sa, iv 3, rv nb] [(.int (own_min (4 : Int32) (3 : Int32))), (.int 0), (.ref nb), (.int 0), (.ref sa)])) (fun t k => st4 t k) ?_
  have hlit4 : (own_min (4 : Int32) (3 : Int32)) = (3 : Int32) := by decide
  rw [hlit4]
  obtain ⟨T5, h5, L5, X5, e5, N5q, K5, VC5, st5⟩ := cpA X4 hx hZ hown (ow hw 72 rfl) (ow hw 75 rfl) (ow hw 73 rfl) (ow hw 74 rfl) e4 V_sa V_nb (Or.inl ⟨rfl, rfl⟩) (by decide) (by decide) (by decide) (by decide) (by decide) rfl (by simp) N0 g_nb (g := (mkF m 28 #[rv sa, iv 3, rv nb] [(.int 3), (.int 0), (.ref nb), (.int 0), (.ref sa)])) rfl (by rw [hml]; rfl) rfl (hb hby d7_28) (by decide) (W := 0) (by show 2 * 0 + _ ≤ _; exact Nat.le_of_eq rfl) (by decide)
  have V_sa := V_sa.keep K5 (ninS ne_sa_nb nin0)
  have E_nb := E_nb.keep K5
  have Z0 := Nat.le_trans Z0 K5.1
  have K0 := K0.trans K5 (allS (Or.inr sz_nb) all0)
  have N0 := N5q
  have V_nb := VC5
  refine oS (B := T5.setTop (mkF m 31 #[rv sa, iv 3, rv nb] [])) (fun t k => st5 t k) ?_
  refine oS (B := T5.setTop (mkF m 32 #[rv sa, iv 3, rv nb] [(.ref nb)])) (fun t k => XS.aloadN X5.here hx rfl (hb hby d7_31) rfl rfl k) ?_
  exact own_retA X5 hx hlk Bd.returns (hb hby d7_32) rfl (by decide) (by decide) (by rw [e5]; exact ⟨_, _, _, rfl, N0, K0, g_nb, sz_nb, V_nb, fun i hi => (own_take _ _ 3 (.int 0) _ _ rfl i hi).trans (by show vs.getD (0 + i) _ = _; rw [Nat.zero_add])⟩)
theorem d14_0 : decode jdk_22_method_1_code 0 = .ok (.aload_n 0, 1) := by decide +kernel
theorem d14_1 : decode jdk_22_method_1_code 1 = .ok (.invokespecial 1, 3) := by decide +kernel
theorem d14_4 : decode jdk_22_method_1_code 4 = .ok (.return_, 1) := by decide +kernel
theorem pn_java_util_AbstractCollection : plainName "java/util/AbstractCollection" = true := by first | (simp [plainName, overriddenIn]; done) | decide +kernel
theorem ef_rm14 (m : MethodId) (x0 : Addr) : entryFrame m #[(.ref x0)] 1 = mkF m 0 #[rv x0] [] := by first | (simp [entryFrame, mkF, argsToLocals, Value.category]; done) | rfl
def QQ_rm14 (Z : State) (b0 : Addr)  (h0 : Heap) (n0 : Nat) (v : Option Value) (h : Heap) (L : List Loc) : Prop := v = none ∧ Fr n0 L ∧ h = h0
set_option maxRecDepth 65536 in
set_option maxHeartbeats 40000000 in
theorem rm14 (l : Launch) (Z : State) (a0 : Array Value) (hw : ∀ d ∈ tables_1, d.before a0 Z = true) (ws : List Jvm.Cond) (b0 : Addr)  (h0 : Heap) (n0 : Nat) (Z0 : n0 ≤ h0.size)  :
    MetFree l (⟨"java/util/AbstractCollection", "<init>", "()V"⟩ : MethodName) (head1 (Jvm.Cond.code (⟨"java/util/AbstractCollection", "<init>", "()V"⟩ : MethodName) jdk_22_method_1_code 1 none :: ws) ({ frames := 1, cells := 0, slots := 0, locals := 12 } : Room)) (fun a U => a = #[(.ref b0)] ∧ Z.Warmed39 U.vm ∧ U.heap = h0) (fun _ _ _ _ _ => True) (fun _ U o U' => ∃ v L, o = .returned v ∧ (QQ_rm14 Z b0 h0 n0) v U'.heap L ∧ FrameEnd U o U' L ({ frames := 1, cells := 0, slots := 0, locals := 12 } : Room).cells ({ frames := 1, cells := 0, slots := 0, locals := 12 } : Room).slots) := by
  refine MetFree.of_bodySF (plainFor_of_name pn_java_util_AbstractCollection) hisR ?_
  intro p e s m args below meth c s₁ Bd hml0 hP hK
  obtain ⟨rfl, hZ, hh⟩ := hP
  have hx := Bd.exec
  have hby := Bd.bytes
  have hlk : meth.locks = false := BodyLoose.notSynchronized Bd
  have hml : c.maxLocals = 1 := hml0
  have hown : s.vm.findClass "java/util/AbstractCollection" = some m.cls := findClass_of_methodNamed Bd.named
  have hnm := (name_of_methodNamed Bd.named Bd.method).1
  have X0 : Stand p l e ({ frames := 1, cells := 0, slots := 0, locals := 12 } : Room) s m #[(.ref b0)] below meth c s₁ [] 0 0 := Stand.of_body Bd
  have e0 : s₁.heap = h0 := by rw [← hh, Bd.state]; rfl
  have N0 := Fr.nil n0
  show own_G p.tables e below s (QQ_rm14 Z b0 h0 n0) ({ frames := 1, cells := 0, slots := 0, locals := 12 } : Room).cells ({ frames := 1, cells := 0, slots := 0, locals := 12 } : Room).slots (s₁.setTop (entryFrame m #[(.ref b0)] 1))
  refine oS (B := s₁.setTop (mkF m 0 #[rv b0] [])) (fun t k => castTop (ef_rm14 m b0) k) ?_
  refine oS (B := s₁.setTop (mkF m 1 #[rv b0] [(.ref b0)])) (fun t k => XS.aloadN X0.here hx rfl (hb hby d14_0) rfl rfl k) ?_
  obtain ⟨T1, X1, e1, st1⟩ := initO X0 hx hZ hown (ow hw 95 rfl) (ow hw 8 rfl) (ow hw 9 rfl) e0 (g := (mkF m 1 #[rv b0] [(.ref b0)])) rfl (by rw [hml]; rfl) rfl (hb hby d14_1) (by decide) (W := 0) (by show 2 * 0 + _ ≤ _; exact Nat.le_of_eq rfl) (by decide)
  refine oS (B := T1.setTop (mkF m 4 #[rv b0] [])) (fun t k => st1 t k) ?_
  exact own_retV X1 hx hlk Bd.returns (hb hby d14_4) (by decide) (by decide) (by exact ⟨rfl, N0, e1⟩)
theorem d13_0 : decode jdk_39_method_1_code 0 = .ok (.aload_n 0, 1) := by decide +kernel
theorem d13_1 : decode jdk_39_method_1_code 1 = .ok (.invokespecial 1, 3) := by decide +kernel
theorem d13_4 : decode jdk_39_method_1_code 4 = .ok (.aload_n 0, 1) := by decide +kernel
theorem d13_5 : decode jdk_39_method_1_code 5 = .ok (.iconst 0, 1) := by decide +kernel
theorem d13_6 : decode jdk_39_method_1_code 6 = .ok (.putfield 7, 3) := by decide +kernel
theorem d13_9 : decode jdk_39_method_1_code 9 = .ok (.return_, 1) := by decide +kernel
theorem pn_java_util_AbstractList : plainName "java/util/AbstractList" = true := by first | (simp [plainName, overriddenIn]; done) | decide +kernel
theorem ef_rm13 (m : MethodId) (x0 : Addr) : entryFrame m #[(.ref x0)] 1 = mkF m 0 #[rv x0] [] := by first | (simp [entryFrame, mkF, argsToLocals, Value.category]; done) | rfl
def QQ_rm13 (Z : State) (b0 : Addr)  (h0 : Heap) (n0 : Nat) (v : Option Value) (h : Heap) (L : List Loc) : Prop := v = none ∧ Fr n0 L ∧ Keep h0 h [b0] ∧ Fld Z h b0 "java/util/AbstractList" "modCount" "I" (.int 0) ∧ Fld Z h b0 "java/util/ArrayList" "elementData" "[Ljava/lang/Object;" .null ∧ Fld Z h b0 "java/util/ArrayList" "size" "I" (.int 0)
set_option maxRecDepth 65536 in
set_option maxHeartbeats 40000000 in
theorem rm13 (l : Launch) (Z : State) (a0 : Array Value) (hw : ∀ d ∈ tables_1, d.before a0 Z = true) (ws : List Jvm.Cond) (b0 : Addr)  (h0 : Heap) (n0 : Nat) (Z0 : n0 ≤ h0.size) (E_b0 : Exa Z h0 b0 "java/util/ArrayList") (g_b0 : n0 ≤ b0) (F_modCount_b0 : Fld Z h0 b0 "java/util/AbstractList" "modCount" "I" (.int 0)) (F_elementData_b0 : Fld Z h0 b0 "java/util/ArrayList" "elementData" "[Ljava/lang/Object;" .null) (F_size_b0 : Fld Z h0 b0 "java/util/ArrayList" "size" "I" (.int 0))  :
    MetFree l (⟨"java/util/AbstractList", "<init>", "()V"⟩ : MethodName) (head1 (Jvm.Cond.code (⟨"java/util/AbstractList", "<init>", "()V"⟩ : MethodName) jdk_39_method_1_code 1 none :: ws) ({ frames := 2, cells := 0, slots := 0, locals := 24 } : Room)) (fun a U => a = #[(.ref b0)] ∧ Z.Warmed39 U.vm ∧ U.heap = h0) (fun _ _ _ _ _ => True) (fun _ U o U' => ∃ v L, o = .returned v ∧ (QQ_rm13 Z b0 h0 n0) v U'.heap L ∧ FrameEnd U o U' L ({ frames := 2, cells := 0, slots := 0, locals := 24 } : Room).cells ({ frames := 2, cells := 0, slots := 0, locals := 24 } : Room).slots) := by
  refine MetFree.of_bodySF (plainFor_of_name pn_java_util_AbstractList) hisR ?_
  intro p e s m args below meth c s₁ Bd hml0 hP hK
  obtain ⟨rfl, hZ, hh⟩ := hP
  have hx := Bd.exec
  have hby := Bd.bytes
  have hlk : meth.locks = false := BodyLoose.notSynchronized Bd
  have hml : c.maxLocals = 1 := hml0
  have hown : s.vm.findClass "java/util/AbstractList" = some m.cls := findClass_of_methodNamed Bd.named
  have hnm := (name_of_methodNamed Bd.named Bd.method).1
  have X0 : Stand p l e ({ frames := 2, cells := 0, slots := 0, locals := 24 } : Room) s m #[(.ref b0)] below meth c s₁ [] 0 0 := Stand.of_body Bd
  have e0 : s₁.heap = h0 := by rw [← hh, Bd.state]; rfl
  have N0 := Fr.nil n0
  show own_G p.tables e below s (QQ_rm13 Z b0 h0 n0) ({ frames := 2, cells := 0, slots := 0, locals := 24 } : Room).cells ({ frames := 2, cells := 0, slots := 0, locals := 24 } : Room).slots (s₁.setTop (entryFrame m #[(.ref b0)] 1))
  refine oS (B := s₁.setTop (mkF m 0 #[rv b0] [])) (fun t k => castTop (ef_rm13 m b0) k) ?_
  have K0 := Keep.refl h0 [b0]
  refine oS (B := s₁.setTop (mkF m 1 #[rv b0] [(.ref b0)])) (fun t k => XS.aloadN X0.here hx rfl (hb hby d13_0) rfl rfl k) ?_
  obtain ⟨_, _, ⟨T1, L1, k1, n1⟩, -, X1, ⟨Lc1, hQ1, l1, y1, z1⟩, st1⟩ := X0.specialBack hx (y := (⟨"java/util/AbstractCollection", "<init>", "()V"⟩ : MethodName)) rfl hown (mvT hZ (ow hw 89 rfl)) (mvT hZ (ow hw 90 rfl)) (mvT hZ (ow hw 94 rfl)) (by decide) (backOf (W := 0) (rm14 l Z a0 hw [] b0  h0 n0 Z0 ) hZ (ow hw 94 rfl) (ow hw 93 rfl) (by decide) (by decide)) (g := (mkF m 1 #[rv b0] [(.ref b0)])) rfl (by rw [hml]; rfl) (Steps.refl _) (a := b0) (argsL := []) (rest := []) (lenOf pd_2 rfl) rfl (by show 2 * 0 + _ ≤ _; exact Nat.le_of_eq rfl) (hb hby d13_1) (fun _ _ => ⟨rfl, e0, (by decide : 0 + 0 ≤ _), (by decide : 0 + 0 ≤ _)⟩)
  dsimp only [Pt.U, Pt.locs, Pt.cells, Pt.slots] at X1 l1 y1 z1 st1 hQ1
  subst l1 y1 z1
  obtain ⟨rfl, N1q, e1⟩ := hQ1
  have N0 := Fr.app N0 N1q
  refine oS (B := T1.setTop (mkF m 4 #[rv b0] [])) (fun t k => st1.trans k) ?_
  refine oS (B := T1.setTop (mkF m 5 #[rv b0] [(.ref b0)])) (fun t k => XS.aloadN X1.here hx rfl (hb hby d13_4) rfl rfl k) ?_
  refine oS (B := T1.setTop (mkF m 6 #[rv b0] [(.int 0), (.ref b0)])) (fun t k => XS.iconst X1.here hx rfl (hb hby d13_5) k) ?_
  obtain ⟨T2, h2, X2, e2, W2, st2⟩ := putF X1 hx hZ hown (host := "") (Or.inl (ow hw 96 rfl)) Via.refl e1 F_modCount_b0 E_b0 (Or.inl (ow hw 97 rfl)) (ow hw 78 rfl) (ty := .int) (by decide) rfl rfl (g := (mkF m 6 #[rv b0] [(.int 0), (.ref b0)])) rfl rfl (hb hby d13_6)
  have E_b0 := E_b0.wr W2
  have F_modCount_b0 := F_modCount_b0.same W2
  have F_elementData_b0 := F_elementData_b0.other W2 (Or.inr (slot_ne (Or.inl (ow hw 100 rfl)) (Or.inl (ow hw 97 rfl)) (by decide) (t := (.array (.object "java/lang/Object"))) (t' := .int) (by decide) (by decide)))
  have F_size_b0 := F_size_b0.other W2 (Or.inr (slot_ne (Or.inl (ow hw 113 rfl)) (Or.inl (ow hw 97 rfl)) (by decide) (t := .int) (t' := .int) (by decide) (by decide)))
  have Z0 := Nat.le_trans Z0 (Keep.of_wr W2).1
  have K0 := K0.wr W2 (Or.inl (List.mem_of_getElem? (i := 0) rfl))
  have N0 := Fr.snoc X2 N0 g_b0
  refine oS (B := T2.setTop (mkF m 9 #[rv b0] [])) (fun t k => st2 t k) ?_
  exact own_retV X2 hx hlk Bd.returns (hb hby d13_9) (by decide) (by decide) (by rw [e2]; exact ⟨rfl, N0, K0, F_modCount_b0, F_elementData_b0, F_size_b0⟩)
theorem d12_0 : decode jdk_38_method_2_code 0 = .ok (.aload_n 0, 1) := by decide +kernel
theorem d12_1 : decode jdk_38_method_2_code 1 = .ok (.invokespecial 1, 3) := by decide +kernel
theorem d12_4 : decode jdk_38_method_2_code 4 = .ok (.aload_n 0, 1) := by decide +kernel
theorem d12_5 : decode jdk_38_method_2_code 5 = .ok (.getstatic 39, 3) := by decide +kernel
theorem d12_8 : decode jdk_38_method_2_code 8 = .ok (.putfield 9, 3) := by decide +kernel
theorem d12_11 : decode jdk_38_method_2_code 11 = .ok (.return_, 1) := by decide +kernel
theorem pn_java_util_ArrayList : plainName "java/util/ArrayList" = true := by first | (simp [plainName, overriddenIn]; done) | decide +kernel
theorem ef_rm12 (m : MethodId) (x0 : Addr) : entryFrame m #[(.ref x0)] 1 = mkF m 0 #[rv x0] [] := by first | (simp [entryFrame, mkF, argsToLocals, Value.category]; done) | rfl
def QQ_rm12 (Z : State) (b0 : Addr) (em : Addr) (ke : ClassId) (de : Addr) (kd : ClassId) (h0 : Heap) (n0 : Nat) (v : Option Value) (h : Heap) (L : List Loc) : Prop := v = none ∧ Fr n0 L ∧ Keep h0 h [b0] ∧ Fld Z h b0 "java/util/AbstractList" "modCount" "I" (.int 0) ∧ Fld Z h b0 "java/util/ArrayList" "elementData" "[Ljava/lang/Object;" (.ref de) ∧ Fld Z h b0 "java/util/ArrayList" "size" "I" (.int 0)
set_option maxRecDepth 65536 in
set_option maxHeartbeats 40000000 in
theorem rm12 (l : Launch) (Z : State) (a0 : Array Value) (hw : ∀ d ∈ tables_1, d.before a0 Z = true) (ws : List Jvm.Cond) (b0 : Addr) (em : Addr) (ke : ClassId) (de : Addr) (kd : ClassId) (h0 : Heap) (n0 : Nat) (Z0 : n0 ≤ h0.size) (E_b0 : Exa Z h0 b0 "java/util/ArrayList") (g_b0 : n0 ≤ b0) (F_modCount_b0 : Fld Z h0 b0 "java/util/AbstractList" "modCount" "I" (.int 0)) (F_elementData_b0 : Fld Z h0 b0 "java/util/ArrayList" "elementData" "[Ljava/lang/Object;" .null) (F_size_b0 : Fld Z h0 b0 "java/util/ArrayList" "size" "I" (.int 0)) (BB : own_Base Z em ke de kd) (O0 : Old Z n0 h0) :
    MetFree l (⟨"java/util/ArrayList", "<init>", "()V"⟩ : MethodName) (head1 (Jvm.Cond.code (⟨"java/util/ArrayList", "<init>", "()V"⟩ : MethodName) jdk_38_method_2_code 1 none :: ws) ({ frames := 3, cells := 0, slots := 0, locals := 36 } : Room)) (fun a U => a = #[(.ref b0)] ∧ Z.Warmed39 U.vm ∧ U.heap = h0) (fun _ _ _ _ _ => True) (fun _ U o U' => ∃ v L, o = .returned v ∧ (QQ_rm12 Z b0 em ke de kd h0 n0) v U'.heap L ∧ FrameEnd U o U' L ({ frames := 3, cells := 0, slots := 0, locals := 36 } : Room).cells ({ frames := 3, cells := 0, slots := 0, locals := 36 } : Room).slots) := by
  refine MetFree.of_bodySF (plainFor_of_name pn_java_util_ArrayList) hisR ?_
  intro p e s m args below meth c s₁ Bd hml0 hP hK
  obtain ⟨rfl, hZ, hh⟩ := hP
  have hx := Bd.exec
  have hby := Bd.bytes
  have hlk : meth.locks = false := BodyLoose.notSynchronized Bd
  have hml : c.maxLocals = 1 := hml0
  have hown : s.vm.findClass "java/util/ArrayList" = some m.cls := findClass_of_methodNamed Bd.named
  have hnm := (name_of_methodNamed Bd.named Bd.method).1
  have X0 : Stand p l e ({ frames := 3, cells := 0, slots := 0, locals := 36 } : Room) s m #[(.ref b0)] below meth c s₁ [] 0 0 := Stand.of_body Bd
  have e0 : s₁.heap = h0 := by rw [← hh, Bd.state]; rfl
  have N0 := Fr.nil n0
  show own_G p.tables e below s (QQ_rm12 Z b0 em ke de kd h0 n0) ({ frames := 3, cells := 0, slots := 0, locals := 36 } : Room).cells ({ frames := 3, cells := 0, slots := 0, locals := 36 } : Room).slots (s₁.setTop (entryFrame m #[(.ref b0)] 1))
  refine oS (B := s₁.setTop (mkF m 0 #[rv b0] [])) (fun t k => castTop (ef_rm12 m b0) k) ?_
  have V_em := BB.2.2.1.ext O0.2
  have E_em := BB.2.1.ext O0.2
  have V_de := BB.2.2.2.2.ext O0.2
  have K0 := Keep.refl h0 [b0]
  refine oS (B := s₁.setTop (mkF m 1 #[rv b0] [(.ref b0)])) (fun t k => XS.aloadN X0.here hx rfl (hb hby d12_0) rfl rfl k) ?_
  obtain ⟨_, _, ⟨T1, L1, k1, n1⟩, -, X1, ⟨Lc1, hQ1, l1, y1, z1⟩, st1⟩ := X0.specialBack hx (y := (⟨"java/util/AbstractList", "<init>", "()V"⟩ : MethodName)) rfl hown (mvT hZ (ow hw 83 rfl)) (mvT hZ (ow hw 84 rfl)) (mvT hZ (ow hw 88 rfl)) (by decide) (backOf (W := 0) (rm13 l Z a0 hw [] b0  h0 n0 Z0 E_b0 g_b0 F_modCount_b0 F_elementData_b0 F_size_b0 ) hZ (ow hw 88 rfl) (ow hw 87 rfl) (by decide) (by decide)) (g := (mkF m 1 #[rv b0] [(.ref b0)])) rfl (by rw [hml]; rfl) (Steps.refl _) (a := b0) (argsL := []) (rest := []) (lenOf pd_2 rfl) rfl (by show 2 * 0 + _ ≤ _; exact Nat.le_of_eq rfl) (hb hby d12_1) (fun _ _ => ⟨rfl, e0, (by decide : 0 + 0 ≤ _), (by decide : 0 + 0 ≤ _)⟩)
  dsimp only [Pt.U, Pt.locs, Pt.cells, Pt.slots] at X1 l1 y1 z1 st1 hQ1
  subst l1 y1 z1
  obtain ⟨rfl, N1q, K1, G0_1, G1_1, G2_1⟩ := hQ1
  have N0 := Fr.app N0 N1q
  have E_b0 := E_b0.keep K1
  have E_em := E_em.keep K1
  have V_em := V_em.keep K1 (ninS (ne_exa E_em E_b0 (by decide)) nin0)
  have V_de := V_de.keep K1 (ninS (O0.ne BB.2.2.2.2.lt g_b0) nin0)
  have Z0 := Nat.le_trans Z0 K1.1
  have O0 := O0.keep K1 (allS g_b0 all0)
  have K0 := K0.trans K1 (allS (Or.inl (List.mem_of_getElem? (i := 0) rfl)) all0)
  have F_modCount_b0 := G0_1
  have F_elementData_b0 := G1_1
  have F_size_b0 := G2_1
  refine oS (B := T1.setTop (mkF m 4 #[rv b0] [])) (fun t k => st1.trans k) ?_
  refine oS (B := T1.setTop (mkF m 5 #[rv b0] [(.ref b0)])) (fun t k => XS.aloadN X1.here hx rfl (hb hby d12_4) rfl rfl k) ?_
  obtain ⟨T2, X2, e2, st2⟩ := getS2 X1 hx hZ hown (host := "") (Or.inl (ow hw 98 rfl)) Via.refl rfl (BB.2.2.2.1.ext O0.2) (g := (mkF m 5 #[rv b0] [(.ref b0)])) rfl (hb hby d12_5)
  refine oS (B := T2.setTop (mkF m 8 #[rv b0] [(.ref de), (.ref b0)])) (fun t k => st2 t k) ?_
  obtain ⟨T3, h3, X3, e3, W3, st3⟩ := putF X2 hx hZ hown (host := "") (Or.inl (ow hw 99 rfl)) Via.refl e2 F_elementData_b0 E_b0 (Or.inl (ow hw 100 rfl)) (ow hw 78 rfl) (ty := (.array (.object "java/lang/Object"))) (by decide) rfl rfl (g := (mkF m 8 #[rv b0] [(.ref de), (.ref b0)])) rfl rfl (hb hby d12_8)
  have E_b0 := E_b0.wr W3
  have E_em := E_em.wr W3
  have V_em := V_em.other W3 (ne_exa E_em E_b0 (by decide))
  have V_de := V_de.other W3 (O0.ne BB.2.2.2.2.lt g_b0)
  have F_modCount_b0 := F_modCount_b0.other W3 (Or.inr (slot_ne (Or.inl (ow hw 97 rfl)) (Or.inl (ow hw 100 rfl)) (by decide) (t := .int) (t' := (.array (.object "java/lang/Object"))) (by decide) (by decide)))
  have F_elementData_b0 := F_elementData_b0.same W3
  have F_size_b0 := F_size_b0.other W3 (Or.inr (slot_ne (Or.inl (ow hw 113 rfl)) (Or.inl (ow hw 100 rfl)) (by decide) (t := .int) (t' := (.array (.object "java/lang/Object"))) (by decide) (by decide)))
  have Z0 := Nat.le_trans Z0 (Keep.of_wr W3).1
  have K0 := K0.wr W3 (Or.inl (List.mem_of_getElem? (i := 0) rfl))
  have N0 := Fr.snoc X3 N0 g_b0
  have O0 := O0.wr W3 g_b0
  refine oS (B := T3.setTop (mkF m 11 #[rv b0] [])) (fun t k => st3 t k) ?_
  exact own_retV X3 hx hlk Bd.returns (hb hby d12_11) (by decide) (by decide) (by rw [e3]; exact ⟨rfl, N0, K0, F_modCount_b0, F_elementData_b0, F_size_b0⟩)
theorem d18_0 : decode jdk_38_method_6_code 0 = .ok (.aload_n 0, 1) := by decide +kernel
theorem d18_1 : decode jdk_38_method_6_code 1 = .ok (.getfield 9, 3) := by decide +kernel
theorem d18_4 : decode jdk_38_method_6_code 4 = .ok (.arraylength, 1) := by decide +kernel
theorem d18_5 : decode jdk_38_method_6_code 5 = .ok (.istore_n 2, 1) := by decide +kernel
theorem d18_6 : decode jdk_38_method_6_code 6 = .ok (.iload_n 2, 1) := by decide +kernel
theorem d18_7 : decode jdk_38_method_6_code 7 = .ok (.ifCond .gt 13, 3) := by decide +kernel
theorem d18_10 : decode jdk_38_method_6_code 10 = .ok (.aload_n 0, 1) := by decide +kernel
theorem d18_11 : decode jdk_38_method_6_code 11 = .ok (.getfield 9, 3) := by decide +kernel
theorem d18_14 : decode jdk_38_method_6_code 14 = .ok (.getstatic 39, 3) := by decide +kernel
theorem d18_17 : decode jdk_38_method_6_code 17 = .ok (.if_acmp .eq 28, 3) := by decide +kernel
theorem d18_45 : decode jdk_38_method_6_code 45 = .ok (.aload_n 0, 1) := by decide +kernel
theorem d18_46 : decode jdk_38_method_6_code 46 = .ok (.bipush 10, 2) := by decide +kernel
theorem d18_48 : decode jdk_38_method_6_code 48 = .ok (.iload_n 1, 1) := by decide +kernel
theorem d18_49 : decode jdk_38_method_6_code 49 = .ok (.invokestatic 79, 3) := by decide +kernel
theorem d18_52 : decode jdk_38_method_6_code 52 = .ok (.anewarray 7, 3) := by decide +kernel
theorem d18_55 : decode jdk_38_method_6_code 55 = .ok (.dup_x1, 1) := by decide +kernel
theorem d18_56 : decode jdk_38_method_6_code 56 = .ok (.putfield 9, 3) := by decide +kernel
theorem d18_59 : decode jdk_38_method_6_code 59 = .ok (.areturn, 1) := by decide +kernel
theorem ef_rmgrow1 (m : MethodId) (x0 : Addr) (x1 : Int32) : entryFrame m #[(.ref x0), (.int x1)] 4 = mkF m 0 #[rv x0, iv x1, .unset, .unset] [] := by first | (simp [entryFrame, mkF, argsToLocals, Value.category]; done) | rfl
def QQ_rmgrow1 (Z : State) (b0 : Addr) (em : Addr) (ke : ClassId) (de : Addr) (kd : ClassId) (h0 : Heap) (n0 : Nat) (v : Option Value) (h : Heap) (L : List Loc) : Prop := ∃ (b : Addr) (kb : ClassId), v = some (.ref b) ∧ Fr n0 L ∧ Keep h0 h [b0] ∧ n0 ≤ b ∧ h0.size ≤ b ∧ Arv Z h b kb (.object "java/lang/Object") (10 : Int32) [] .null ∧ Ovr Z kb "java/lang/Object" ∧ Fld Z h b0 "java/util/ArrayList" "size" "I" (.int 0)
set_option maxRecDepth 65536 in
set_option maxHeartbeats 40000000 in
theorem rmgrow1 (l : Launch) (Z : State) (a0 : Array Value) (hw : ∀ d ∈ tables_1, d.before a0 Z = true) (ws : List Jvm.Cond) (b0 : Addr) (em : Addr) (ke : ClassId) (de : Addr) (kd : ClassId) (h0 : Heap) (n0 : Nat) (Z0 : n0 ≤ h0.size) (E_b0 : Exa Z h0 b0 "java/util/ArrayList") (g_b0 : n0 ≤ b0) (F_modCount_b0 : Fld Z h0 b0 "java/util/AbstractList" "modCount" "I" (.int 1)) (F_elementData_b0 : Fld Z h0 b0 "java/util/ArrayList" "elementData" "[Ljava/lang/Object;" (.ref de)) (F_size_b0 : Fld Z h0 b0 "java/util/ArrayList" "size" "I" (.int 0)) (BB : own_Base Z em ke de kd) (O0 : Old Z n0 h0)  :
    MetFree l (⟨"java/util/ArrayList", "grow", "(I)[Ljava/lang/Object;"⟩ : MethodName) (head1 (Jvm.Cond.code (⟨"java/util/ArrayList", "grow", "(I)[Ljava/lang/Object;"⟩ : MethodName) jdk_38_method_6_code 4 (some (.array (.object "java/lang/Object"))) :: ws) ({ frames := 1, cells := 1, slots := 10, locals := 14 } : Room)) (fun a U => a = #[(.ref b0), (.int 1)] ∧ Z.Warmed39 U.vm ∧ U.heap = h0) (fun _ _ _ _ _ => True) (fun _ U o U' => ∃ v L, o = .returned v ∧ (QQ_rmgrow1 Z b0 em ke de kd h0 n0) v U'.heap L ∧ FrameEnd U o U' L ({ frames := 1, cells := 1, slots := 10, locals := 14 } : Room).cells ({ frames := 1, cells := 1, slots := 10, locals := 14 } : Room).slots) := by
  refine MetFree.of_bodySF (plainFor_of_name pn_java_util_ArrayList) hisR ?_
  intro p e s m args below meth c s₁ Bd hml0 hP hK
  obtain ⟨rfl, hZ, hh⟩ := hP
  have hx := Bd.exec
  have hby := Bd.bytes
  have hlk : meth.locks = false := BodyLoose.notSynchronized Bd
  have hml : c.maxLocals = 4 := hml0
  have hown : s.vm.findClass "java/util/ArrayList" = some m.cls := findClass_of_methodNamed Bd.named
  have hnm := (name_of_methodNamed Bd.named Bd.method).1
  have X0 : Stand p l e ({ frames := 1, cells := 1, slots := 10, locals := 14 } : Room) s m #[(.ref b0), (.int 1)] below meth c s₁ [] 0 0 := Stand.of_body Bd
  have e0 : s₁.heap = h0 := by rw [← hh, Bd.state]; rfl
  have N0 := Fr.nil n0
  show own_G p.tables e below s (QQ_rmgrow1 Z b0 em ke de kd h0 n0) ({ frames := 1, cells := 1, slots := 10, locals := 14 } : Room).cells ({ frames := 1, cells := 1, slots := 10, locals := 14 } : Room).slots (s₁.setTop (entryFrame m #[(.ref b0), (.int 1)] 4))
  refine oS (B := s₁.setTop (mkF m 0 #[rv b0, iv 1, .unset, .unset] [])) (fun t k => castTop (ef_rmgrow1 m b0 (1 : Int32)) k) ?_
  have V_em := BB.2.2.1.ext O0.2
  have E_em := BB.2.1.ext O0.2
  have V_de := BB.2.2.2.2.ext O0.2
  have K0 := Keep.refl h0 [b0]
  refine oS (B := s₁.setTop (mkF m 1 #[rv b0, iv 1, .unset, .unset] [(.ref b0)])) (fun t k => XS.aloadN X0.here hx rfl (hb hby d18_0) rfl rfl k) ?_
  obtain ⟨T1, X1, e1, st1⟩ := getF X0 hx hZ hown (host := "") (Or.inl (ow hw 99 rfl)) Via.refl e0 F_elementData_b0 (g := (mkF m 1 #[rv b0, iv 1, .unset, .unset] [(.ref b0)])) rfl rfl (hb hby d18_1)
  refine oS (B := T1.setTop (mkF m 4 #[rv b0, iv 1, .unset, .unset] [(.ref de)])) (fun t k => st1 t k) ?_
  have Vo_2 := V_de
  obtain ⟨cl_2, Ar_2, q_2, S_2, M_2, H_2, G_2⟩ := Vo_2
  refine oS (B := T1.setTop (mkF m 5 #[rv b0, iv 1, .unset, .unset] [(.int 0)])) (fun t k => X1.arraylength hx (by rw [e1]; exact Ar_2.1) (State.isArrayOf_alike hZ.alike Ar_2.2.1) (g := (mkF m 4 #[rv b0, iv 1, .unset, .unset] [(.ref de)])) rfl rfl (hb hby d18_4) t (by rw [len_of S_2 M_2]; exact k)) ?_
  refine oS (B := T1.setTop (mkF m 6 #[rv b0, iv 1, iv 0, .unset] [])) (fun t k => XS.istoreN X1.here hx rfl (hb hby d18_5) rfl (l' := #[rv b0, iv 1, iv 0, .unset]) rfl k) ?_
  refine oS (B := T1.setTop (mkF m 7 #[rv b0, iv 1, iv 0, .unset] [(.int 0)])) (fun t k => XS.iloadN X1.here hx rfl (hb hby d18_6) rfl k) ?_
  refine oS (B := T1.setTop (mkF m 10 #[rv b0, iv 1, iv 0, .unset] [])) (fun t k => XS.ifNo X1.here hx rfl (hb hby d18_7) rfl ((if0 _ _).trans (flt (by decide)).2.2.1) k) ?_
  refine oS (B := T1.setTop (mkF m 11 #[rv b0, iv 1, iv 0, .unset] [(.ref b0)])) (fun t k => XS.aloadN X1.here hx rfl (hb hby d18_10) rfl rfl k) ?_
  obtain ⟨T3, X3, e3, st3⟩ := getF X1 hx hZ hown (host := "") (Or.inl (ow hw 99 rfl)) Via.refl e1 F_elementData_b0 (g := (mkF m 11 #[rv b0, iv 1, iv 0, .unset] [(.ref b0)])) rfl rfl (hb hby d18_11)
  refine oS (B := T3.setTop (mkF m 14 #[rv b0, iv 1, iv 0, .unset] [(.ref de)])) (fun t k => st3 t k) ?_
  obtain ⟨T4, X4, e4, st4⟩ := getS2 X3 hx hZ hown (host := "") (Or.inl (ow hw 98 rfl)) Via.refl e3 (BB.2.2.2.1.ext O0.2) (g := (mkF m 14 #[rv b0, iv 1, iv 0, .unset] [(.ref de)])) rfl (hb hby d18_14)
  refine oS (B := T4.setTop (mkF m 17 #[rv b0, iv 1, iv 0, .unset] [(.ref de), (.ref de)])) (fun t k => st4 t k) ?_
  refine oS (B := T4.setTop (mkF m 45 #[rv b0, iv 1, iv 0, .unset] [])) (fun t k => Jvm.RoadKit.acmp (g := (mkF m 17 #[rv b0, iv 1, iv 0, .unset] [(.ref de), (.ref de)])) X4 hx rfl rfl rfl (pc0 := 17) (pc' := 45) (same := true) rfl (hb hby d18_17) rfl (decide_eq_true rfl) (by decide) (by decide) k) ?_
  refine oS (B := T4.setTop (mkF m 46 #[rv b0, iv 1, iv 0, .unset] [(.ref b0)])) (fun t k => XS.aloadN X4.here hx rfl (hb hby d18_45) rfl rfl k) ?_
  refine oS (B := T4.setTop (mkF m 48 #[rv b0, iv 1, iv 0, .unset] [(.int 10), (.ref b0)])) (fun t k => XS.bipush X4.here hx rfl (hb hby d18_46) k) ?_
  refine oS (B := T4.setTop (mkF m 49 #[rv b0, iv 1, iv 0, .unset] [(.int 1), (.int 10), (.ref b0)])) (fun t k => XS.iloadN X4.here hx rfl (hb hby d18_48) rfl k) ?_
  obtain ⟨_, _, ⟨T5, L5, k5, n5⟩, -, X5, ⟨Lc5, hQ5, l5, y5, z5⟩, st5⟩ := Jvm.LawKit.callS X4 hx (y := (⟨"java/lang/Math", "max", "(II)I"⟩ : MethodName)) hown (mvT hZ (ow hw 129 rfl)) (mvT hZ (ow hw 130 rfl)) (mvT hZ (ow hw 57 rfl)) (mvT hZ (ow hw 131 rfl)) (by decide) (backOf (W := 1) (rm19_10 l Z a0 hw []   h0 n0 Z0 ) hZ (ow hw 131 rfl) (ow hw 57 rfl) (by decide) (by decide)) (g := (mkF m 49 #[rv b0, iv 1, iv 0, .unset] [(.int 1), (.int 10), (.ref b0)])) rfl (by rw [hml]; rfl) (argsL := [(.int 10), (.int 1)]) (rest := [(.ref b0)]) (lenOf pd_1 rfl) rfl (by show 2 * 0 + _ ≤ _; exact Nat.le_of_eq rfl) (hb hby d18_49) (fun _ _ => ⟨rfl, e4, (by decide : 0 + 0 ≤ _), (by decide : 0 + 0 ≤ _)⟩)
  dsimp only [Pt.U, Pt.locs, Pt.cells, Pt.slots] at X5 l5 y5 z5 st5 hQ5
  subst l5 y5 z5
  obtain ⟨rfl, N5q, e5⟩ := hQ5
  have N0 := Fr.app N0 N5q
  refine oS (B := T5.setTop (mkF m 52 #[rv b0, iv 1, iv 0, .unset] [(.int 10), (.ref b0)])) (fun t k => st5 t k) ?_
  obtain ⟨T6, h6, k6, X6, e6, E6, A6, EE6, OV6, st6⟩ := newRE X5 hx hZ hown (ow hw 132 rfl) (ow hw 133 rfl) e5 (g := (mkF m 52 #[rv b0, iv 1, iv 0, .unset] [(.int 10), (.ref b0)])) rfl (hb hby d18_52) rfl (by decide) (cap := 10) (by decide) (by decide) (by decide) (by decide) (ad := "[Ljava/lang/Object;") rfl
  obtain ⟨nb, g6⟩ : ∃ z, z = h0.size := ⟨_, rfl⟩
  rw [← g6] at A6 EE6 st6
  have g_nb : n0 ≤ nb := Nat.le_trans Z0 (Nat.le_of_eq g6.symm)
  have sz_nb : h0.size ≤ nb := Nat.le_trans K0.1 (Nat.le_of_eq g6.symm)
  have ne_b0_nb : b0 ≠ nb := Nat.ne_of_lt (Nat.lt_of_lt_of_le E_b0.lt (Nat.le_of_eq g6.symm))
  have ne_em_nb : em ≠ nb := Nat.ne_of_lt (Nat.lt_of_lt_of_le E_em.lt (Nat.le_of_eq g6.symm))
  have ne_de_nb : de ≠ nb := Nat.ne_of_lt (Nat.lt_of_lt_of_le V_de.lt (Nat.le_of_eq g6.symm))
  have E_b0 := E_b0.ext E6
  have F_modCount_b0 := F_modCount_b0.ext E6
  have F_elementData_b0 := F_elementData_b0.ext E6
  have F_size_b0 := F_size_b0.ext E6
  have E_em := E_em.ext E6
  have V_em := V_em.ext E6
  have V_de := V_de.ext E6
  have Z0 := Nat.le_trans Z0 E6.1
  have O0 := O0.ext E6
  have K0 := K0.ext E6
  have V_nb : Arv Z h6 nb k6 (.object "java/lang/Object") (10 : Int32) [] .null := Arv.new A6 (by decide)
  have OV_nb := OV6
  refine oS (B := T6.setTop (mkF m 55 #[rv b0, iv 1, iv 0, .unset] [(.ref nb), (.ref b0)])) (fun t k => st6 t k) ?_
  refine oS (B := T6.setTop (mkF m 56 #[rv b0, iv 1, iv 0, .unset] [(.ref nb), (.ref b0), (.ref nb)])) (fun t k => XS.dupX1 X6.here hx rfl (hb hby d18_55) rfl rfl rfl k) ?_
  obtain ⟨T7, h7, X7, e7, W7, st7⟩ := putF X6 hx hZ hown (host := "") (Or.inl (ow hw 99 rfl)) Via.refl e6 F_elementData_b0 E_b0 (Or.inl (ow hw 100 rfl)) (ow hw 78 rfl) (ty := (.array (.object "java/lang/Object"))) (by decide) rfl rfl (g := (mkF m 56 #[rv b0, iv 1, iv 0, .unset] [(.ref nb), (.ref b0), (.ref nb)])) rfl rfl (hb hby d18_56)
  have E_b0 := E_b0.wr W7
  have F_modCount_b0 := F_modCount_b0.other W7 (Or.inr (slot_ne (Or.inl (ow hw 97 rfl)) (Or.inl (ow hw 100 rfl)) (by decide) (t := .int) (t' := (.array (.object "java/lang/Object"))) (by decide) (by decide)))
  have F_elementData_b0 := F_elementData_b0.same W7
  have F_size_b0 := F_size_b0.other W7 (Or.inr (slot_ne (Or.inl (ow hw 113 rfl)) (Or.inl (ow hw 100 rfl)) (by decide) (t := .int) (t' := (.array (.object "java/lang/Object"))) (by decide) (by decide)))
  have E_em := E_em.wr W7
  have V_em := V_em.other W7 (ne_exa E_em E_b0 (by decide))
  have V_de := V_de.other W7 (O0.ne BB.2.2.2.2.lt g_b0)
  have V_nb := V_nb.other W7 (Ne.symm ne_b0_nb)
  have Z0 := Nat.le_trans Z0 (Keep.of_wr W7).1
  have K0 := K0.wr W7 (Or.inl (List.mem_of_getElem? (i := 0) rfl))
  have N0 := Fr.snoc X7 N0 g_b0
  have O0 := O0.wr W7 g_b0
  refine oS (B := T7.setTop (mkF m 59 #[rv b0, iv 1, iv 0, .unset] [(.ref nb)])) (fun t k => st7 t k) ?_
  exact own_retA X7 hx hlk Bd.returns (hb hby d18_59) rfl (by decide) (by decide) (by rw [e7]; exact ⟨_, _, rfl, N0, K0, g_nb, sz_nb, V_nb, OV_nb, F_size_b0⟩)
theorem d17_0 : decode jdk_38_method_7_code 0 = .ok (.aload_n 0, 1) := by decide +kernel
theorem d17_1 : decode jdk_38_method_7_code 1 = .ok (.aload_n 0, 1) := by decide +kernel
theorem d17_2 : decode jdk_38_method_7_code 2 = .ok (.getfield 48, 3) := by decide +kernel
theorem d17_5 : decode jdk_38_method_7_code 5 = .ok (.iconst 1, 1) := by decide +kernel
theorem d17_6 : decode jdk_38_method_7_code 6 = .ok (.iadd, 1) := by decide +kernel
theorem d17_7 : decode jdk_38_method_7_code 7 = .ok (.invokevirtual 69, 3) := by decide +kernel
theorem d17_10 : decode jdk_38_method_7_code 10 = .ok (.areturn, 1) := by decide +kernel
theorem ef_rmgrow0 (m : MethodId) (x0 : Addr) : entryFrame m #[(.ref x0)] 1 = mkF m 0 #[rv x0] [] := by first | (simp [entryFrame, mkF, argsToLocals, Value.category]; done) | rfl
def QQ_rmgrow0 (Z : State) (b0 : Addr) (em : Addr) (ke : ClassId) (de : Addr) (kd : ClassId) (h0 : Heap) (n0 : Nat) (v : Option Value) (h : Heap) (L : List Loc) : Prop := ∃ (b : Addr) (kb : ClassId), v = some (.ref b) ∧ Fr n0 L ∧ Keep h0 h [b0] ∧ n0 ≤ b ∧ h0.size ≤ b ∧ Arv Z h b kb (.object "java/lang/Object") (10 : Int32) [] .null ∧ Ovr Z kb "java/lang/Object" ∧ Fld Z h b0 "java/util/ArrayList" "size" "I" (.int 0)
set_option maxRecDepth 65536 in
set_option maxHeartbeats 40000000 in
theorem rmgrow0 (l : Launch) (Z : State) (a0 : Array Value) (hw : ∀ d ∈ tables_1, d.before a0 Z = true) (ws : List Jvm.Cond) (b0 : Addr) (em : Addr) (ke : ClassId) (de : Addr) (kd : ClassId) (h0 : Heap) (n0 : Nat) (Z0 : n0 ≤ h0.size) (E_b0 : Exa Z h0 b0 "java/util/ArrayList") (g_b0 : n0 ≤ b0) (F_modCount_b0 : Fld Z h0 b0 "java/util/AbstractList" "modCount" "I" (.int 1)) (F_elementData_b0 : Fld Z h0 b0 "java/util/ArrayList" "elementData" "[Ljava/lang/Object;" (.ref de)) (F_size_b0 : Fld Z h0 b0 "java/util/ArrayList" "size" "I" (.int 0)) (BB : own_Base Z em ke de kd) (O0 : Old Z n0 h0)  :
    MetFree l (⟨"java/util/ArrayList", "grow", "()[Ljava/lang/Object;"⟩ : MethodName) (head1 (Jvm.Cond.code (⟨"java/util/ArrayList", "grow", "()[Ljava/lang/Object;"⟩ : MethodName) jdk_38_method_7_code 1 (some (.array (.object "java/lang/Object"))) :: ws) ({ frames := 2, cells := 1, slots := 10, locals := 29 } : Room)) (fun a U => a = #[(.ref b0)] ∧ Z.Warmed39 U.vm ∧ U.heap = h0) (fun _ _ _ _ _ => True) (fun _ U o U' => ∃ v L, o = .returned v ∧ (QQ_rmgrow0 Z b0 em ke de kd h0 n0) v U'.heap L ∧ FrameEnd U o U' L ({ frames := 2, cells := 1, slots := 10, locals := 29 } : Room).cells ({ frames := 2, cells := 1, slots := 10, locals := 29 } : Room).slots) := by
  refine MetFree.of_bodySF (plainFor_of_name pn_java_util_ArrayList) hisR ?_
  intro p e s m args below meth c s₁ Bd hml0 hP hK
  obtain ⟨rfl, hZ, hh⟩ := hP
  have hx := Bd.exec
  have hby := Bd.bytes
  have hlk : meth.locks = false := BodyLoose.notSynchronized Bd
  have hml : c.maxLocals = 1 := hml0
  have hown : s.vm.findClass "java/util/ArrayList" = some m.cls := findClass_of_methodNamed Bd.named
  have hnm := (name_of_methodNamed Bd.named Bd.method).1
  have X0 : Stand p l e ({ frames := 2, cells := 1, slots := 10, locals := 29 } : Room) s m #[(.ref b0)] below meth c s₁ [] 0 0 := Stand.of_body Bd
  have e0 : s₁.heap = h0 := by rw [← hh, Bd.state]; rfl
  have N0 := Fr.nil n0
  show own_G p.tables e below s (QQ_rmgrow0 Z b0 em ke de kd h0 n0) ({ frames := 2, cells := 1, slots := 10, locals := 29 } : Room).cells ({ frames := 2, cells := 1, slots := 10, locals := 29 } : Room).slots (s₁.setTop (entryFrame m #[(.ref b0)] 1))
  refine oS (B := s₁.setTop (mkF m 0 #[rv b0] [])) (fun t k => castTop (ef_rmgrow0 m b0) k) ?_
  have V_em := BB.2.2.1.ext O0.2
  have E_em := BB.2.1.ext O0.2
  have V_de := BB.2.2.2.2.ext O0.2
  have K0 := Keep.refl h0 [b0]
  refine oS (B := s₁.setTop (mkF m 1 #[rv b0] [(.ref b0)])) (fun t k => XS.aloadN X0.here hx rfl (hb hby d17_0) rfl rfl k) ?_
  refine oS (B := s₁.setTop (mkF m 2 #[rv b0] [(.ref b0), (.ref b0)])) (fun t k => XS.aloadN X0.here hx rfl (hb hby d17_1) rfl rfl k) ?_
  obtain ⟨T1, X1, e1, st1⟩ := getF X0 hx hZ hown (host := "") (Or.inl (ow hw 112 rfl)) Via.refl e0 F_size_b0 (g := (mkF m 2 #[rv b0] [(.ref b0), (.ref b0)])) rfl rfl (hb hby d17_2)
  refine oS (B := T1.setTop (mkF m 5 #[rv b0] [(.int 0), (.ref b0)])) (fun t k => st1 t k) ?_
  refine oS (B := T1.setTop (mkF m 6 #[rv b0] [(.int 1), (.int 0), (.ref b0)])) (fun t k => XS.iconst X1.here hx rfl (hb hby d17_5) k) ?_
  refine oS (B := T1.setTop (mkF m 7 #[rv b0] [(.int 1), (.ref b0)])) (fun t k => XS.iadd X1.here hx rfl (hb hby d17_6) rfl k) ?_
  have lt_b0 := E_b0.lt
  have KZ := K0
  obtain ⟨cq2, q2, q2'⟩ := E_b0.cell
  obtain ⟨_, _, ⟨T2, L2, k2, n2⟩, -, X2, ⟨Lc2, hQ2, l2, y2, z2⟩, st2⟩ := X1.privateBack hx (y := (⟨"java/util/ArrayList", "grow", "(I)[Ljava/lang/Object;"⟩ : MethodName)) hown (mvT hZ (ow hw 124 rfl)) (mvT hZ (ow hw 125 rfl)) (mvT hZ (ow hw 127 rfl)) (Cond.privateMethod_at (mvP hZ (ow hw 126 rfl) (args := #[]))) (mvT hZ (ow hw 128 rfl)) (by decide) (backOf (W := 0) (rmgrow1 l Z a0 hw [] b0 em ke de kd h0 n0 Z0 E_b0 g_b0 F_modCount_b0 F_elementData_b0 F_size_b0 BB O0) hZ (ow hw 128 rfl) (ow hw 79 rfl) (by decide) (by decide)) (g := (mkF m 7 #[rv b0] [(.int 1), (.ref b0)])) rfl (by rw [hml]; rfl) (Steps.refl _) (a := b0) (by rw [e1]; exact q2) q2' (argsL := [(.int 1)]) (rest := []) (lenOf pd_3 rfl) rfl (by show 2 * 0 + _ ≤ _; exact Nat.le_of_eq rfl) (hb hby d17_7) (fun _ _ => ⟨rfl, e1, (by decide : 0 + 1 ≤ _), (by decide : 0 + 10 ≤ _)⟩)
  dsimp only [Pt.U, Pt.locs, Pt.cells, Pt.slots] at X2 l2 y2 z2 st2 hQ2
  subst l2 y2 z2
  obtain ⟨nb, knb, rfl, N2q, K2, g_nb, sz'_nb, V_nb, OV_nb, F_size_b0⟩ := hQ2
  have N0 := Fr.app N0 N2q
  have E_b0 := E_b0.keep K2
  have E_em := E_em.keep K2
  have V_em := V_em.keep K2 (ninS (ne_exa E_em E_b0 (by decide)) nin0)
  have V_de := V_de.keep K2 (ninS (O0.ne BB.2.2.2.2.lt g_b0) nin0)
  have Z0 := Nat.le_trans Z0 K2.1
  have O0 := O0.keep K2 (allS g_b0 all0)
  have K0 := K0.trans K2 (allS (Or.inl (List.mem_of_getElem? (i := 0) rfl)) all0)
  have ne_b0_nb : b0 ≠ nb := Nat.ne_of_lt (Nat.lt_of_lt_of_le lt_b0 sz'_nb)
  have sz_nb : h0.size ≤ nb := Nat.le_trans KZ.1 sz'_nb
  refine oS (B := T2.setTop (mkF m 10 #[rv b0] [(.ref nb)])) (fun t k => st2.trans k) ?_
  exact own_retA X2 hx hlk Bd.returns (hb hby d17_10) rfl (by decide) (by decide) (by exact ⟨_, _, rfl, N0, K0, g_nb, sz_nb, V_nb, OV_nb, F_size_b0⟩)
theorem d16_0 : decode jdk_38_method_24_code 0 = .ok (.iload_n 3, 1) := by decide +kernel
theorem d16_1 : decode jdk_38_method_24_code 1 = .ok (.aload_n 2, 1) := by decide +kernel
theorem d16_2 : decode jdk_38_method_24_code 2 = .ok (.arraylength, 1) := by decide +kernel
theorem d16_3 : decode jdk_38_method_24_code 3 = .ok (.if_icmp .ne 8, 3) := by decide +kernel
theorem d16_6 : decode jdk_38_method_24_code 6 = .ok (.aload_n 0, 1) := by decide +kernel
theorem d16_7 : decode jdk_38_method_24_code 7 = .ok (.invokevirtual 129, 3) := by decide +kernel
theorem d16_10 : decode jdk_38_method_24_code 10 = .ok (.astore_n 2, 1) := by decide +kernel
theorem d16_11 : decode jdk_38_method_24_code 11 = .ok (.aload_n 2, 1) := by decide +kernel
theorem d16_12 : decode jdk_38_method_24_code 12 = .ok (.iload_n 3, 1) := by decide +kernel
theorem d16_13 : decode jdk_38_method_24_code 13 = .ok (.aload_n 1, 1) := by decide +kernel
theorem d16_14 : decode jdk_38_method_24_code 14 = .ok (.aastore, 1) := by decide +kernel
theorem d16_15 : decode jdk_38_method_24_code 15 = .ok (.aload_n 0, 1) := by decide +kernel
theorem d16_16 : decode jdk_38_method_24_code 16 = .ok (.iload_n 3, 1) := by decide +kernel
theorem d16_17 : decode jdk_38_method_24_code 17 = .ok (.iconst 1, 1) := by decide +kernel
theorem d16_18 : decode jdk_38_method_24_code 18 = .ok (.iadd, 1) := by decide +kernel
theorem d16_19 : decode jdk_38_method_24_code 19 = .ok (.putfield 48, 3) := by decide +kernel
theorem d16_22 : decode jdk_38_method_24_code 22 = .ok (.return_, 1) := by decide +kernel
theorem ef_rmadd3 (m : MethodId) (x0 : Addr) (x1 : Addr) (x2 : Addr) (x3 : Int32) : entryFrame m #[(.ref x0), (.ref x1), (.ref x2), (.int x3)] 4 = mkF m 0 #[rv x0, rv x1, rv x2, iv x3] [] := by first | (simp [entryFrame, mkF, argsToLocals, Value.category]; done) | rfl
def QQ_rmadd3 (Z : State) (b0 : Addr) (la : Addr) (em : Addr) (ke : ClassId) (de : Addr) (kd : ClassId) (h0 : Heap) (n0 : Nat) (v : Option Value) (h : Heap) (L : List Loc) : Prop := v = none ∧ Fr n0 L ∧ Keep h0 h [b0]
set_option maxRecDepth 65536 in
set_option maxHeartbeats 40000000 in
theorem rmadd3 (l : Launch) (Z : State) (a0 : Array Value) (hw : ∀ d ∈ tables_1, d.before a0 Z = true) (ws : List Jvm.Cond) (b0 : Addr) (la : Addr) (em : Addr) (ke : ClassId) (de : Addr) (kd : ClassId) (h0 : Heap) (n0 : Nat) (Z0 : n0 ≤ h0.size) (E_b0 : Exa Z h0 b0 "java/util/ArrayList") (g_b0 : n0 ≤ b0) (F_modCount_b0 : Fld Z h0 b0 "java/util/AbstractList" "modCount" "I" (.int 1)) (F_elementData_b0 : Fld Z h0 b0 "java/util/ArrayList" "elementData" "[Ljava/lang/Object;" (.ref de)) (F_size_b0 : Fld Z h0 b0 "java/util/ArrayList" "size" "I" (.int 0)) (BB : own_Base Z em ke de kd) (O0 : Old Z n0 h0) (E_la : Exa Z h0 la "[B") :
    MetFree l (⟨"java/util/ArrayList", "add", "(Ljava/lang/Object;[Ljava/lang/Object;I)V"⟩ : MethodName) (head1 (Jvm.Cond.code (⟨"java/util/ArrayList", "add", "(Ljava/lang/Object;[Ljava/lang/Object;I)V"⟩ : MethodName) jdk_38_method_24_code 4 none :: ws) ({ frames := 3, cells := 1, slots := 10, locals := 41 } : Room)) (fun a U => a = #[(.ref b0), (.ref la), (.ref de), (.int 0)] ∧ Z.Warmed39 U.vm ∧ U.heap = h0) (fun _ _ _ _ _ => True) (fun _ U o U' => ∃ v L, o = .returned v ∧ (QQ_rmadd3 Z b0 la em ke de kd h0 n0) v U'.heap L ∧ FrameEnd U o U' L ({ frames := 3, cells := 1, slots := 10, locals := 41 } : Room).cells ({ frames := 3, cells := 1, slots := 10, locals := 41 } : Room).slots) := by
  refine MetFree.of_bodySF (plainFor_of_name pn_java_util_ArrayList) hisR ?_
  intro p e s m args below meth c s₁ Bd hml0 hP hK
  obtain ⟨rfl, hZ, hh⟩ := hP
  have hx := Bd.exec
  have hby := Bd.bytes
  have hlk : meth.locks = false := BodyLoose.notSynchronized Bd
  have hml : c.maxLocals = 4 := hml0
  have hown : s.vm.findClass "java/util/ArrayList" = some m.cls := findClass_of_methodNamed Bd.named
  have hnm := (name_of_methodNamed Bd.named Bd.method).1
  have X0 : Stand p l e ({ frames := 3, cells := 1, slots := 10, locals := 41 } : Room) s m #[(.ref b0), (.ref la), (.ref de), (.int 0)] below meth c s₁ [] 0 0 := Stand.of_body Bd
  have e0 : s₁.heap = h0 := by rw [← hh, Bd.state]; rfl
  have N0 := Fr.nil n0
  show own_G p.tables e below s (QQ_rmadd3 Z b0 la em ke de kd h0 n0) ({ frames := 3, cells := 1, slots := 10, locals := 41 } : Room).cells ({ frames := 3, cells := 1, slots := 10, locals := 41 } : Room).slots (s₁.setTop (entryFrame m #[(.ref b0), (.ref la), (.ref de), (.int 0)] 4))
  refine oS (B := s₁.setTop (mkF m 0 #[rv b0, rv la, rv de, iv 0] [])) (fun t k => castTop (ef_rmadd3 m b0 la de (0 : Int32)) k) ?_
  have V_em := BB.2.2.1.ext O0.2
  have E_em := BB.2.1.ext O0.2
  have V_de := BB.2.2.2.2.ext O0.2
  have K0 := Keep.refl h0 [b0]
  refine oS (B := s₁.setTop (mkF m 1 #[rv b0, rv la, rv de, iv 0] [(.int 0)])) (fun t k => XS.iloadN X0.here hx rfl (hb hby d16_0) rfl k) ?_
  refine oS (B := s₁.setTop (mkF m 2 #[rv b0, rv la, rv de, iv 0] [(.ref de), (.int 0)])) (fun t k => XS.aloadN X0.here hx rfl (hb hby d16_1) rfl rfl k) ?_
  have Vo_1 := V_de
  obtain ⟨cl_1, Ar_1, q_1, S_1, M_1, H_1, G_1⟩ := Vo_1
  refine oS (B := s₁.setTop (mkF m 3 #[rv b0, rv la, rv de, iv 0] [(.int 0), (.int 0)])) (fun t k => X0.arraylength hx (by rw [e0]; exact Ar_1.1) (State.isArrayOf_alike hZ.alike Ar_1.2.1) (g := (mkF m 2 #[rv b0, rv la, rv de, iv 0] [(.ref de), (.int 0)])) rfl rfl (hb hby d16_2) t (by rw [len_of S_1 M_1]; exact k)) ?_
  refine oS (B := s₁.setTop (mkF m 6 #[rv b0, rv la, rv de, iv 0] [])) (fun t k => XS.icmpNo X0.here hx rfl (hb hby d16_3) rfl (teq rfl).2 k) ?_
  refine oS (B := s₁.setTop (mkF m 7 #[rv b0, rv la, rv de, iv 0] [(.ref b0)])) (fun t k => XS.aloadN X0.here hx rfl (hb hby d16_6) rfl rfl k) ?_
  have lt_b0 := E_b0.lt
  have lt_la := E_la.lt
  have KZ := K0
  obtain ⟨cq2, q2, q2'⟩ := E_b0.cell
  obtain ⟨_, _, ⟨T2, L2, k2, n2⟩, -, X2, ⟨Lc2, hQ2, l2, y2, z2⟩, st2⟩ := X0.privateBack hx (y := (⟨"java/util/ArrayList", "grow", "()[Ljava/lang/Object;"⟩ : MethodName)) hown (mvT hZ (ow hw 119 rfl)) (mvT hZ (ow hw 120 rfl)) (mvT hZ (ow hw 122 rfl)) (Cond.privateMethod_at (mvP hZ (ow hw 121 rfl) (args := #[]))) (mvT hZ (ow hw 123 rfl)) (by decide) (backOf (W := 0) (rmgrow0 l Z a0 hw [] b0 em ke de kd h0 n0 Z0 E_b0 g_b0 F_modCount_b0 F_elementData_b0 F_size_b0 BB O0) hZ (ow hw 123 rfl) (ow hw 79 rfl) (by decide) (by decide)) (g := (mkF m 7 #[rv b0, rv la, rv de, iv 0] [(.ref b0)])) rfl (by rw [hml]; rfl) (Steps.refl _) (a := b0) (by rw [e0]; exact q2) q2' (argsL := []) (rest := []) (lenOf pd_4 rfl) rfl (by show 2 * 0 + _ ≤ _; exact Nat.le_of_eq rfl) (hb hby d16_7) (fun _ _ => ⟨rfl, e0, (by decide : 0 + 1 ≤ _), (by decide : 0 + 10 ≤ _)⟩)
  dsimp only [Pt.U, Pt.locs, Pt.cells, Pt.slots] at X2 l2 y2 z2 st2 hQ2
  subst l2 y2 z2
  obtain ⟨nb, knb, rfl, N2q, K2, g_nb, sz'_nb, V_nb, OV_nb, F_size_b0⟩ := hQ2
  have N0 := Fr.app N0 N2q
  have E_b0 := E_b0.keep K2
  have E_em := E_em.keep K2
  have V_em := V_em.keep K2 (ninS (ne_exa E_em E_b0 (by decide)) nin0)
  have V_de := V_de.keep K2 (ninS (O0.ne BB.2.2.2.2.lt g_b0) nin0)
  have E_la := E_la.keep K2
  have Z0 := Nat.le_trans Z0 K2.1
  have O0 := O0.keep K2 (allS g_b0 all0)
  have K0 := K0.trans K2 (allS (Or.inl (List.mem_of_getElem? (i := 0) rfl)) all0)
  have ne_b0_nb : b0 ≠ nb := Nat.ne_of_lt (Nat.lt_of_lt_of_le lt_b0 sz'_nb)
  have ne_la_nb : la ≠ nb := Nat.ne_of_lt (Nat.lt_of_lt_of_le lt_la sz'_nb)
  have sz_nb : h0.size ≤ nb := Nat.le_trans KZ.1 sz'_nb
  refine oS (B := T2.setTop (mkF m 10 #[rv b0, rv la, rv de, iv 0] [(.ref nb)])) (fun t k => st2.trans k) ?_
  refine oS (B := T2.setTop (mkF m 11 #[rv b0, rv la, rv nb, iv 0] [])) (fun t k => XS.astoreN X2.here hx rfl (hb hby d16_10) rfl rfl (l' := #[rv b0, rv la, rv nb, iv 0]) rfl k) ?_
  refine oS (B := T2.setTop (mkF m 12 #[rv b0, rv la, rv nb, iv 0] [(.ref nb)])) (fun t k => XS.aloadN X2.here hx rfl (hb hby d16_11) rfl rfl k) ?_
  refine oS (B := T2.setTop (mkF m 13 #[rv b0, rv la, rv nb, iv 0] [(.int 0), (.ref nb)])) (fun t k => XS.iloadN X2.here hx rfl (hb hby d16_12) rfl k) ?_
  refine oS (B := T2.setTop (mkF m 14 #[rv b0, rv la, rv nb, iv 0] [(.ref la), (.int 0), (.ref nb)])) (fun t k => XS.aloadN X2.here hx rfl (hb hby d16_13) rfl rfl k) ?_
  have Vo_3 := V_nb
  obtain ⟨cl_3, Ar_3, q_3, S_3, M_3, H_3, G_3⟩ := Vo_3
  have hin4 : ¬ ((0 : Int32) < 0 ∨ cl_3.slots.size ≤ ((0 : Int32)).toNatClampNeg) := inb_of S_3 ⟨by decide, by decide⟩
  obtain ⟨T4, h4, X4, e4, W4, st4⟩ := stR X2 hx hZ rfl Ar_3 (j := (0 : Int32)) hin4 rfl (Sto.ofV Ar_3 q_3 OV_nb (Ins.of_exa E_la (ow hw 134 rfl))) (g := (mkF m 14 #[rv b0, rv la, rv nb, iv 0] [(.ref la), (.int 0), (.ref nb)])) rfl rfl (hb hby d16_14)
  have E_b0 := E_b0.wr W4
  have E_em := E_em.wr W4
  have V_em := V_em.other W4 (O0.ne BB.2.2.1.lt g_nb)
  have V_de := V_de.other W4 (O0.ne BB.2.2.2.2.lt g_nb)
  have E_la := E_la.wr W4
  have F_size_b0 := F_size_b0.other W4 (Or.inl ne_b0_nb)
  have Z0 := Nat.le_trans Z0 (Keep.of_wr W4).1
  have K0 := K0.wr W4 (Or.inr sz_nb)
  have N0 := Fr.snoc X4 N0 g_nb
  have O0 := O0.wr W4 g_nb
  refine oS (B := T4.setTop (mkF m 15 #[rv b0, rv la, rv nb, iv 0] [])) (fun t k => st4 t k) ?_
  refine oS (B := T4.setTop (mkF m 16 #[rv b0, rv la, rv nb, iv 0] [(.ref b0)])) (fun t k => XS.aloadN X4.here hx rfl (hb hby d16_15) rfl rfl k) ?_
  refine oS (B := T4.setTop (mkF m 17 #[rv b0, rv la, rv nb, iv 0] [(.int 0), (.ref b0)])) (fun t k => XS.iloadN X4.here hx rfl (hb hby d16_16) rfl k) ?_
  refine oS (B := T4.setTop (mkF m 18 #[rv b0, rv la, rv nb, iv 0] [(.int 1), (.int 0), (.ref b0)])) (fun t k => XS.iconst X4.here hx rfl (hb hby d16_17) k) ?_
  refine oS (B := T4.setTop (mkF m 19 #[rv b0, rv la, rv nb, iv 0] [(.int 1), (.ref b0)])) (fun t k => XS.iadd X4.here hx rfl (hb hby d16_18) rfl k) ?_
  obtain ⟨T5, h5, X5, e5, W5, st5⟩ := putF X4 hx hZ hown (host := "") (Or.inl (ow hw 112 rfl)) Via.refl e4 F_size_b0 E_b0 (Or.inl (ow hw 113 rfl)) (ow hw 78 rfl) (ty := .int) (by decide) rfl rfl (g := (mkF m 19 #[rv b0, rv la, rv nb, iv 0] [(.int 1), (.ref b0)])) rfl rfl (hb hby d16_19)
  have E_b0 := E_b0.wr W5
  have E_em := E_em.wr W5
  have V_em := V_em.other W5 (ne_exa E_em E_b0 (by decide))
  have V_de := V_de.other W5 (O0.ne BB.2.2.2.2.lt g_b0)
  have E_la := E_la.wr W5
  have F_size_b0 := F_size_b0.same W5
  have Z0 := Nat.le_trans Z0 (Keep.of_wr W5).1
  have K0 := K0.wr W5 (Or.inl (List.mem_of_getElem? (i := 0) rfl))
  have N0 := Fr.snoc X5 N0 g_b0
  have O0 := O0.wr W5 g_b0
  refine oS (B := T5.setTop (mkF m 22 #[rv b0, rv la, rv nb, iv 0] [])) (fun t k => st5 t k) ?_
  exact own_retV X5 hx hlk Bd.returns (hb hby d16_22) (by decide) (by decide) (by rw [e5]; exact ⟨rfl, N0, K0⟩)
theorem d15_0 : decode jdk_38_method_25_code 0 = .ok (.aload_n 0, 1) := by decide +kernel
theorem d15_1 : decode jdk_38_method_25_code 1 = .ok (.dup, 1) := by decide +kernel
theorem d15_2 : decode jdk_38_method_25_code 2 = .ok (.getfield 63, 3) := by decide +kernel
theorem d15_5 : decode jdk_38_method_25_code 5 = .ok (.iconst 1, 1) := by decide +kernel
theorem d15_6 : decode jdk_38_method_25_code 6 = .ok (.iadd, 1) := by decide +kernel
theorem d15_7 : decode jdk_38_method_25_code 7 = .ok (.putfield 63, 3) := by decide +kernel
theorem d15_10 : decode jdk_38_method_25_code 10 = .ok (.aload_n 0, 1) := by decide +kernel
theorem d15_11 : decode jdk_38_method_25_code 11 = .ok (.aload_n 1, 1) := by decide +kernel
theorem d15_12 : decode jdk_38_method_25_code 12 = .ok (.aload_n 0, 1) := by decide +kernel
theorem d15_13 : decode jdk_38_method_25_code 13 = .ok (.getfield 9, 3) := by decide +kernel
theorem d15_16 : decode jdk_38_method_25_code 16 = .ok (.aload_n 0, 1) := by decide +kernel
theorem d15_17 : decode jdk_38_method_25_code 17 = .ok (.getfield 48, 3) := by decide +kernel
theorem d15_20 : decode jdk_38_method_25_code 20 = .ok (.invokevirtual 131, 3) := by decide +kernel
theorem d15_23 : decode jdk_38_method_25_code 23 = .ok (.iconst 1, 1) := by decide +kernel
theorem d15_24 : decode jdk_38_method_25_code 24 = .ok (.ireturn, 1) := by decide +kernel
theorem ef_rmadd (m : MethodId) (x0 : Addr) (x1 : Addr) : entryFrame m #[(.ref x0), (.ref x1)] 2 = mkF m 0 #[rv x0, rv x1] [] := by first | (simp [entryFrame, mkF, argsToLocals, Value.category]; done) | rfl
def QQ_rmadd (Z : State) (b0 : Addr) (la : Addr) (em : Addr) (ke : ClassId) (de : Addr) (kd : ClassId) (h0 : Heap) (n0 : Nat) (v : Option Value) (h : Heap) (L : List Loc) : Prop := v = some (.int 1) ∧ Fr n0 L ∧ Keep h0 h [b0]
set_option maxRecDepth 65536 in
set_option maxHeartbeats 40000000 in
theorem rmadd (l : Launch) (Z : State) (a0 : Array Value) (hw : ∀ d ∈ tables_1, d.before a0 Z = true) (ws : List Jvm.Cond) (b0 : Addr) (la : Addr) (em : Addr) (ke : ClassId) (de : Addr) (kd : ClassId) (h0 : Heap) (n0 : Nat) (Z0 : n0 ≤ h0.size) (E_b0 : Exa Z h0 b0 "java/util/ArrayList") (g_b0 : n0 ≤ b0) (F_modCount_b0 : Fld Z h0 b0 "java/util/AbstractList" "modCount" "I" (.int 0)) (F_elementData_b0 : Fld Z h0 b0 "java/util/ArrayList" "elementData" "[Ljava/lang/Object;" (.ref de)) (F_size_b0 : Fld Z h0 b0 "java/util/ArrayList" "size" "I" (.int 0)) (BB : own_Base Z em ke de kd) (O0 : Old Z n0 h0) (E_la : Exa Z h0 la "[B") :
    MetFree l (⟨"java/util/ArrayList", "add", "(Ljava/lang/Object;)Z"⟩ : MethodName) (head1 (Jvm.Cond.code (⟨"java/util/ArrayList", "add", "(Ljava/lang/Object;)Z"⟩ : MethodName) jdk_38_method_25_code 2 (some .boolean) :: ws) ({ frames := 4, cells := 1, slots := 10, locals := 56 } : Room)) (fun a U => a = #[(.ref b0), (.ref la)] ∧ Z.Warmed39 U.vm ∧ U.heap = h0) (fun _ _ _ _ _ => True) (fun _ U o U' => ∃ v L, o = .returned v ∧ (QQ_rmadd Z b0 la em ke de kd h0 n0) v U'.heap L ∧ FrameEnd U o U' L ({ frames := 4, cells := 1, slots := 10, locals := 56 } : Room).cells ({ frames := 4, cells := 1, slots := 10, locals := 56 } : Room).slots) := by
  refine MetFree.of_bodySF (plainFor_of_name pn_java_util_ArrayList) hisR ?_
  intro p e s m args below meth c s₁ Bd hml0 hP hK
  obtain ⟨rfl, hZ, hh⟩ := hP
  have hx := Bd.exec
  have hby := Bd.bytes
  have hlk : meth.locks = false := BodyLoose.notSynchronized Bd
  have hml : c.maxLocals = 2 := hml0
  have hown : s.vm.findClass "java/util/ArrayList" = some m.cls := findClass_of_methodNamed Bd.named
  have hnm := (name_of_methodNamed Bd.named Bd.method).1
  have X0 : Stand p l e ({ frames := 4, cells := 1, slots := 10, locals := 56 } : Room) s m #[(.ref b0), (.ref la)] below meth c s₁ [] 0 0 := Stand.of_body Bd
  have e0 : s₁.heap = h0 := by rw [← hh, Bd.state]; rfl
  have N0 := Fr.nil n0
  show own_G p.tables e below s (QQ_rmadd Z b0 la em ke de kd h0 n0) ({ frames := 4, cells := 1, slots := 10, locals := 56 } : Room).cells ({ frames := 4, cells := 1, slots := 10, locals := 56 } : Room).slots (s₁.setTop (entryFrame m #[(.ref b0), (.ref la)] 2))
  refine oS (B := s₁.setTop (mkF m 0 #[rv b0, rv la] [])) (fun t k => castTop (ef_rmadd m b0 la) k) ?_
  have V_em := BB.2.2.1.ext O0.2
  have E_em := BB.2.1.ext O0.2
  have V_de := BB.2.2.2.2.ext O0.2
  have K0 := Keep.refl h0 [b0]
  refine oS (B := s₁.setTop (mkF m 1 #[rv b0, rv la] [(.ref b0)])) (fun t k => XS.aloadN X0.here hx rfl (hb hby d15_0) rfl rfl k) ?_
  refine oS (B := s₁.setTop (mkF m 2 #[rv b0, rv la] [(.ref b0), (.ref b0)])) (fun t k => XS.dup X0.here hx rfl (hb hby d15_1) rfl rfl k) ?_
  obtain ⟨T1, X1, e1, st1⟩ := getF X0 hx hZ hown (host := "") (Or.inl (ow hw 110 rfl)) (Via.of (ow hw 111 rfl)) e0 F_modCount_b0 (g := (mkF m 2 #[rv b0, rv la] [(.ref b0), (.ref b0)])) rfl rfl (hb hby d15_2)
  refine oS (B := T1.setTop (mkF m 5 #[rv b0, rv la] [(.int 0), (.ref b0)])) (fun t k => st1 t k) ?_
  refine oS (B := T1.setTop (mkF m 6 #[rv b0, rv la] [(.int 1), (.int 0), (.ref b0)])) (fun t k => XS.iconst X1.here hx rfl (hb hby d15_5) k) ?_
  refine oS (B := T1.setTop (mkF m 7 #[rv b0, rv la] [(.int 1), (.ref b0)])) (fun t k => XS.iadd X1.here hx rfl (hb hby d15_6) rfl k) ?_
  obtain ⟨T2, h2, X2, e2, W2, st2⟩ := putF X1 hx hZ hown (host := "") (Or.inl (ow hw 110 rfl)) (Via.of (ow hw 111 rfl)) e1 F_modCount_b0 E_b0 (Or.inl (ow hw 97 rfl)) (ow hw 78 rfl) (ty := .int) (by decide) rfl rfl (g := (mkF m 7 #[rv b0, rv la] [(.int 1), (.ref b0)])) rfl rfl (hb hby d15_7)
  have E_b0 := E_b0.wr W2
  have F_modCount_b0 := F_modCount_b0.same W2
  have F_elementData_b0 := F_elementData_b0.other W2 (Or.inr (slot_ne (Or.inl (ow hw 100 rfl)) (Or.inl (ow hw 97 rfl)) (by decide) (t := (.array (.object "java/lang/Object"))) (t' := .int) (by decide) (by decide)))
  have F_size_b0 := F_size_b0.other W2 (Or.inr (slot_ne (Or.inl (ow hw 113 rfl)) (Or.inl (ow hw 97 rfl)) (by decide) (t := .int) (t' := .int) (by decide) (by decide)))
  have E_em := E_em.wr W2
  have V_em := V_em.other W2 (ne_exa E_em E_b0 (by decide))
  have V_de := V_de.other W2 (O0.ne BB.2.2.2.2.lt g_b0)
  have E_la := E_la.wr W2
  have Z0 := Nat.le_trans Z0 (Keep.of_wr W2).1
  have K0 := K0.wr W2 (Or.inl (List.mem_of_getElem? (i := 0) rfl))
  have N0 := Fr.snoc X2 N0 g_b0
  have O0 := O0.wr W2 g_b0
  refine oS (B := T2.setTop (mkF m 10 #[rv b0, rv la] [])) (fun t k => st2 t k) ?_
  refine oS (B := T2.setTop (mkF m 11 #[rv b0, rv la] [(.ref b0)])) (fun t k => XS.aloadN X2.here hx rfl (hb hby d15_10) rfl rfl k) ?_
  refine oS (B := T2.setTop (mkF m 12 #[rv b0, rv la] [(.ref la), (.ref b0)])) (fun t k => XS.aloadN X2.here hx rfl (hb hby d15_11) rfl rfl k) ?_
  refine oS (B := T2.setTop (mkF m 13 #[rv b0, rv la] [(.ref b0), (.ref la), (.ref b0)])) (fun t k => XS.aloadN X2.here hx rfl (hb hby d15_12) rfl rfl k) ?_
  obtain ⟨T3, X3, e3, st3⟩ := getF X2 hx hZ hown (host := "") (Or.inl (ow hw 99 rfl)) Via.refl e2 F_elementData_b0 (g := (mkF m 13 #[rv b0, rv la] [(.ref b0), (.ref la), (.ref b0)])) rfl rfl (hb hby d15_13)
  refine oS (B := T3.setTop (mkF m 16 #[rv b0, rv la] [(.ref de), (.ref la), (.ref b0)])) (fun t k => st3 t k) ?_
  refine oS (B := T3.setTop (mkF m 17 #[rv b0, rv la] [(.ref b0), (.ref de), (.ref la), (.ref b0)])) (fun t k => XS.aloadN X3.here hx rfl (hb hby d15_16) rfl rfl k) ?_
  obtain ⟨T4, X4, e4, st4⟩ := getF X3 hx hZ hown (host := "") (Or.inl (ow hw 112 rfl)) Via.refl e3 F_size_b0 (g := (mkF m 17 #[rv b0, rv la] [(.ref b0), (.ref de), (.ref la), (.ref b0)])) rfl rfl (hb hby d15_17)
  refine oS (B := T4.setTop (mkF m 20 #[rv b0, rv la] [(.int 0), (.ref de), (.ref la), (.ref b0)])) (fun t k => st4 t k) ?_
  obtain ⟨cq5, q5, q5'⟩ := E_b0.cell
  obtain ⟨_, _, ⟨T5, L5, k5, n5⟩, -, X5, ⟨Lc5, hQ5, l5, y5, z5⟩, st5⟩ := X4.privateBack hx (y := (⟨"java/util/ArrayList", "add", "(Ljava/lang/Object;[Ljava/lang/Object;I)V"⟩ : MethodName)) hown (mvT hZ (ow hw 114 rfl)) (mvT hZ (ow hw 115 rfl)) (mvT hZ (ow hw 117 rfl)) (Cond.privateMethod_at (mvP hZ (ow hw 116 rfl) (args := #[]))) (mvT hZ (ow hw 118 rfl)) (by decide) (backOf (W := 0) (rmadd3 l Z a0 hw [] b0 la em ke de kd h2 n0 Z0 E_b0 g_b0 F_modCount_b0 F_elementData_b0 F_size_b0 BB O0 E_la) hZ (ow hw 118 rfl) (ow hw 79 rfl) (by decide) (by decide)) (g := (mkF m 20 #[rv b0, rv la] [(.int 0), (.ref de), (.ref la), (.ref b0)])) rfl (by rw [hml]; rfl) (Steps.refl _) (a := b0) (by rw [e4]; exact q5) q5' (argsL := [(.ref la), (.ref de), (.int 0)]) (rest := []) (lenOf pd_5 rfl) rfl (by show 2 * 0 + _ ≤ _; exact Nat.le_of_eq rfl) (hb hby d15_20) (fun _ _ => ⟨rfl, e4, (by decide : 0 + 1 ≤ _), (by decide : 0 + 10 ≤ _)⟩)
  dsimp only [Pt.U, Pt.locs, Pt.cells, Pt.slots] at X5 l5 y5 z5 st5 hQ5
  subst l5 y5 z5
  obtain ⟨rfl, N5q, K5⟩ := hQ5
  have N0 := Fr.app N0 N5q
  have E_b0 := E_b0.keep K5
  have E_em := E_em.keep K5
  have V_em := V_em.keep K5 (ninS (ne_exa E_em E_b0 (by decide)) nin0)
  have V_de := V_de.keep K5 (ninS (O0.ne BB.2.2.2.2.lt g_b0) nin0)
  have E_la := E_la.keep K5
  have Z0 := Nat.le_trans Z0 K5.1
  have O0 := O0.keep K5 (allS g_b0 all0)
  have K0 := K0.trans K5 (allS (Or.inl (List.mem_of_getElem? (i := 0) rfl)) all0)
  refine oS (B := T5.setTop (mkF m 23 #[rv b0, rv la] [])) (fun t k => st5.trans k) ?_
  refine oS (B := T5.setTop (mkF m 24 #[rv b0, rv la] [(.int 1)])) (fun t k => XS.iconst X5.here hx rfl (hb hby d15_23) k) ?_
  exact own_retN X5 hx hlk (t := .boolean) Bd.returns (by simp) (hb hby d15_24) (by decide) (by decide) (by exact ⟨rfl, N0, K0⟩)
theorem d1_0 : decode prog_102_method_1_code 0 = .ok (.aload_n 0, 1) := by decide +kernel
theorem d1_1 : decode prog_102_method_1_code 1 = .ok (.invokespecial 1, 3) := by decide +kernel
theorem d1_4 : decode prog_102_method_1_code 4 = .ok (.aload_n 0, 1) := by decide +kernel
theorem d1_5 : decode prog_102_method_1_code 5 = .ok (.getstatic 7, 3) := by decide +kernel
theorem d1_8 : decode prog_102_method_1_code 8 = .ok (.putfield 13, 3) := by decide +kernel
theorem d1_11 : decode prog_102_method_1_code 11 = .ok (.return_, 1) := by decide +kernel
theorem ef_rm1 (m : MethodId) (x0 : Addr) : entryFrame m #[(.ref x0)] 1 = mkF m 0 #[rv x0] [] := by first | (simp [entryFrame, mkF, argsToLocals, Value.category]; done) | rfl
def QQ_rm1 (Z : State) (b0 : Addr) (em : Addr) (ke : ClassId) (de : Addr) (kd : ClassId) (h0 : Heap) (n0 : Nat) (v : Option Value) (h : Heap) (L : List Loc) : Prop := v = none ∧ Fr n0 L ∧ Keep h0 h [b0] ∧ Fld Z h b0 "com/example/loomwire/loomwire/transport/MessageBuffer" "full" "Ljava/util/List;" .null ∧ Fld Z h b0 "com/example/loomwire/loomwire/transport/MessageBuffer" "last" "[B" (.ref em) ∧ Fld Z h b0 "com/example/loomwire/loomwire/transport/MessageBuffer" "lastLength" "I" (.int 0) ∧ Fld Z h b0 "com/example/loomwire/loomwire/transport/MessageBuffer" "length" "I" (.int 0)
set_option maxRecDepth 65536 in
set_option maxHeartbeats 40000000 in
theorem rm1 (l : Launch) (Z : State) (a0 : Array Value) (hw : ∀ d ∈ tables_1, d.before a0 Z = true) (ws : List Jvm.Cond) (b0 : Addr) (em : Addr) (ke : ClassId) (de : Addr) (kd : ClassId) (h0 : Heap) (n0 : Nat) (Z0 : n0 ≤ h0.size) (E_b0 : Exa Z h0 b0 "com/example/loomwire/loomwire/transport/MessageBuffer") (g_b0 : n0 ≤ b0) (F_full_b0 : Fld Z h0 b0 "com/example/loomwire/loomwire/transport/MessageBuffer" "full" "Ljava/util/List;" .null) (F_last_b0 : Fld Z h0 b0 "com/example/loomwire/loomwire/transport/MessageBuffer" "last" "[B" .null) (F_lastLength_b0 : Fld Z h0 b0 "com/example/loomwire/loomwire/transport/MessageBuffer" "lastLength" "I" (.int 0)) (F_length_b0 : Fld Z h0 b0 "com/example/loomwire/loomwire/transport/MessageBuffer" "length" "I" (.int 0)) (BB : own_Base Z em ke de kd) (O0 : Old Z n0 h0) :
    MetFree l (⟨"com/example/loomwire/loomwire/transport/MessageBuffer", "<init>", "()V"⟩ : MethodName) (head1 (Jvm.Cond.code (⟨"com/example/loomwire/loomwire/transport/MessageBuffer", "<init>", "()V"⟩ : MethodName) prog_102_method_1_code 1 none :: ws) ({ frames := 1, cells := 0, slots := 0, locals := 12 } : Room)) (fun a U => a = #[(.ref b0)] ∧ Z.Warmed39 U.vm ∧ U.heap = h0) (fun _ _ _ _ _ => True) (fun _ U o U' => ∃ v L, o = .returned v ∧ (QQ_rm1 Z b0 em ke de kd h0 n0) v U'.heap L ∧ FrameEnd U o U' L ({ frames := 1, cells := 0, slots := 0, locals := 12 } : Room).cells ({ frames := 1, cells := 0, slots := 0, locals := 12 } : Room).slots) := by
  refine MetFree.of_bodySF (plainFor_of_name pn_com_example_loomwire_loomwire_transport_MessageBuffer) hisR ?_
  intro p e s m args below meth c s₁ Bd hml0 hP hK
  obtain ⟨rfl, hZ, hh⟩ := hP
  have hx := Bd.exec
  have hby := Bd.bytes
  have hlk : meth.locks = false := BodyLoose.notSynchronized Bd
  have hml : c.maxLocals = 1 := hml0
  have hown : s.vm.findClass "com/example/loomwire/loomwire/transport/MessageBuffer" = some m.cls := findClass_of_methodNamed Bd.named
  have hnm := (name_of_methodNamed Bd.named Bd.method).1
  have X0 : Stand p l e ({ frames := 1, cells := 0, slots := 0, locals := 12 } : Room) s m #[(.ref b0)] below meth c s₁ [] 0 0 := Stand.of_body Bd
  have e0 : s₁.heap = h0 := by rw [← hh, Bd.state]; rfl
  have N0 := Fr.nil n0
  show own_G p.tables e below s (QQ_rm1 Z b0 em ke de kd h0 n0) ({ frames := 1, cells := 0, slots := 0, locals := 12 } : Room).cells ({ frames := 1, cells := 0, slots := 0, locals := 12 } : Room).slots (s₁.setTop (entryFrame m #[(.ref b0)] 1))
  refine oS (B := s₁.setTop (mkF m 0 #[rv b0] [])) (fun t k => castTop (ef_rm1 m b0) k) ?_
  have V_em := BB.2.2.1.ext O0.2
  have E_em := BB.2.1.ext O0.2
  have V_de := BB.2.2.2.2.ext O0.2
  have K0 := Keep.refl h0 [b0]
  refine oS (B := s₁.setTop (mkF m 1 #[rv b0] [(.ref b0)])) (fun t k => XS.aloadN X0.here hx rfl (hb hby d1_0) rfl rfl k) ?_
  obtain ⟨T1, X1, e1, st1⟩ := initO X0 hx hZ hown (ow hw 7 rfl) (ow hw 8 rfl) (ow hw 9 rfl) e0 (g := (mkF m 1 #[rv b0] [(.ref b0)])) rfl (by rw [hml]; rfl) rfl (hb hby d1_1) (by decide) (W := 0) (by show 2 * 0 + _ ≤ _; exact Nat.le_of_eq rfl) (by decide)
  refine oS (B := T1.setTop (mkF m 4 #[rv b0] [])) (fun t k => st1 t k) ?_
  refine oS (B := T1.setTop (mkF m 5 #[rv b0] [(.ref b0)])) (fun t k => XS.aloadN X1.here hx rfl (hb hby d1_4) rfl rfl k) ?_
  obtain ⟨T2, X2, e2, st2⟩ := getS2 X1 hx hZ hown (host := "") (Or.inl (ow hw 10 rfl)) Via.refl e1 (BB.1.ext O0.2) (g := (mkF m 5 #[rv b0] [(.ref b0)])) rfl (hb hby d1_5)
  refine oS (B := T2.setTop (mkF m 8 #[rv b0] [(.ref em), (.ref b0)])) (fun t k => st2 t k) ?_
  obtain ⟨T3, h3, X3, e3, W3, st3⟩ := putF X2 hx hZ hown (host := "") (Or.inl (ow hw 12 rfl)) Via.refl e2 F_last_b0 E_b0 (Or.inl (ow hw 13 rfl)) (ow hw 2 rfl) (ty := (.array .byte)) (by decide) rfl rfl (g := (mkF m 8 #[rv b0] [(.ref em), (.ref b0)])) rfl rfl (hb hby d1_8)
  have E_b0 := E_b0.wr W3
  have F_full_b0 := F_full_b0.other W3 (Or.inr (slot_ne (Or.inl (ow hw 27 rfl)) (Or.inl (ow hw 13 rfl)) (by decide) (t := (.object "java/util/List")) (t' := (.array .byte)) (by decide) (by decide)))
  have F_last_b0 := F_last_b0.same W3
  have F_lastLength_b0 := F_lastLength_b0.other W3 (Or.inr (slot_ne (Or.inl (ow hw 29 rfl)) (Or.inl (ow hw 13 rfl)) (by decide) (t := .int) (t' := (.array .byte)) (by decide) (by decide)))
  have F_length_b0 := F_length_b0.other W3 (Or.inr (slot_ne (Or.inl (ow hw 20 rfl)) (Or.inl (ow hw 13 rfl)) (by decide) (t := .int) (t' := (.array .byte)) (by decide) (by decide)))
  have E_em := E_em.wr W3
  have V_em := V_em.other W3 (ne_exa E_em E_b0 (by decide))
  have V_de := V_de.other W3 (O0.ne BB.2.2.2.2.lt g_b0)
  have Z0 := Nat.le_trans Z0 (Keep.of_wr W3).1
  have K0 := K0.wr W3 (Or.inl (List.mem_of_getElem? (i := 0) rfl))
  have N0 := Fr.snoc X3 N0 g_b0
  have O0 := O0.wr W3 g_b0
  refine oS (B := T3.setTop (mkF m 11 #[rv b0] [])) (fun t k => st3 t k) ?_
  exact own_retV X3 hx hlk Bd.returns (hb hby d1_11) (by decide) (by decide) (by rw [e3]; exact ⟨rfl, N0, K0, F_full_b0, F_last_b0, F_lastLength_b0, F_length_b0⟩)
theorem d4_0 : decode prog_102_method_5_code 0 = .ok (.aload_n 0, 1) := by decide +kernel
theorem d4_1 : decode prog_102_method_5_code 1 = .ok (.aconst_null, 1) := by decide +kernel
theorem d4_2 : decode prog_102_method_5_code 2 = .ok (.putfield 30, 3) := by decide +kernel
theorem d4_5 : decode prog_102_method_5_code 5 = .ok (.aload_n 0, 1) := by decide +kernel
theorem d4_6 : decode prog_102_method_5_code 6 = .ok (.getstatic 7, 3) := by decide +kernel
theorem d4_9 : decode prog_102_method_5_code 9 = .ok (.putfield 13, 3) := by decide +kernel
theorem d4_12 : decode prog_102_method_5_code 12 = .ok (.aload_n 0, 1) := by decide +kernel
theorem d4_13 : decode prog_102_method_5_code 13 = .ok (.iconst 0, 1) := by decide +kernel
theorem d4_14 : decode prog_102_method_5_code 14 = .ok (.putfield 26, 3) := by decide +kernel
theorem d4_17 : decode prog_102_method_5_code 17 = .ok (.aload_n 0, 1) := by decide +kernel
theorem d4_18 : decode prog_102_method_5_code 18 = .ok (.iconst 0, 1) := by decide +kernel
theorem d4_19 : decode prog_102_method_5_code 19 = .ok (.putfield 22, 3) := by decide +kernel
theorem d4_22 : decode prog_102_method_5_code 22 = .ok (.return_, 1) := by decide +kernel
theorem ef_rm4 (m : MethodId) (x0 : Addr) : entryFrame m #[(.ref x0)] 1 = mkF m 0 #[rv x0] [] := by first | (simp [entryFrame, mkF, argsToLocals, Value.category]; done) | rfl
def QQ_rm4 (Z : State) (b0 : Addr) (em : Addr) (ke : ClassId) (de : Addr) (kd : ClassId) (vf vl vll vlen : Value) (h0 : Heap) (n0 : Nat) (v : Option Value) (h : Heap) (L : List Loc) : Prop := v = none ∧ Fr n0 L ∧ Keep h0 h [b0] ∧ Fld Z h b0 "com/example/loomwire/loomwire/transport/MessageBuffer" "full" "Ljava/util/List;" .null ∧ Fld Z h b0 "com/example/loomwire/loomwire/transport/MessageBuffer" "last" "[B" (.ref em) ∧ Fld Z h b0 "com/example/loomwire/loomwire/transport/MessageBuffer" "lastLength" "I" (.int 0) ∧ Fld Z h b0 "com/example/loomwire/loomwire/transport/MessageBuffer" "length" "I" (.int 0)
set_option maxRecDepth 65536 in
set_option maxHeartbeats 40000000 in
theorem rm4 (l : Launch) (Z : State) (a0 : Array Value) (hw : ∀ d ∈ tables_1, d.before a0 Z = true) (ws : List Jvm.Cond) (b0 : Addr) (em : Addr) (ke : ClassId) (de : Addr) (kd : ClassId) (vf vl vll vlen : Value) (h0 : Heap) (n0 : Nat) (Z0 : n0 ≤ h0.size) (E_b0 : Exa Z h0 b0 "com/example/loomwire/loomwire/transport/MessageBuffer") (g_b0 : n0 ≤ b0) (F_full_b0 : Fld Z h0 b0 "com/example/loomwire/loomwire/transport/MessageBuffer" "full" "Ljava/util/List;" vf) (F_last_b0 : Fld Z h0 b0 "com/example/loomwire/loomwire/transport/MessageBuffer" "last" "[B" vl) (F_lastLength_b0 : Fld Z h0 b0 "com/example/loomwire/loomwire/transport/MessageBuffer" "lastLength" "I" vll) (F_length_b0 : Fld Z h0 b0 "com/example/loomwire/loomwire/transport/MessageBuffer" "length" "I" vlen) (BB : own_Base Z em ke de kd) (O0 : Old Z n0 h0) :
    MetFree l (⟨"com/example/loomwire/loomwire/transport/MessageBuffer", "clear", "()V"⟩ : MethodName) (head1 (Jvm.Cond.code (⟨"com/example/loomwire/loomwire/transport/MessageBuffer", "clear", "()V"⟩ : MethodName) prog_102_method_5_code 1 none :: ws) ({ frames := 0, cells := 0, slots := 0, locals := 0 } : Room)) (fun a U => a = #[(.ref b0)] ∧ Z.Warmed39 U.vm ∧ U.heap = h0) (fun _ _ _ _ _ => True) (fun _ U o U' => ∃ v L, o = .returned v ∧ (QQ_rm4 Z b0 em ke de kd vf vl vll vlen h0 n0) v U'.heap L ∧ FrameEnd U o U' L ({ frames := 0, cells := 0, slots := 0, locals := 0 } : Room).cells ({ frames := 0, cells := 0, slots := 0, locals := 0 } : Room).slots) := by
  refine MetFree.of_bodySF (plainFor_of_name pn_com_example_loomwire_loomwire_transport_MessageBuffer) hisR ?_
  intro p e s m args below meth c s₁ Bd hml0 hP hK
  obtain ⟨rfl, hZ, hh⟩ := hP
  have hx := Bd.exec
  have hby := Bd.bytes
  have hlk : meth.locks = false := BodyLoose.notSynchronized Bd
  have hml : c.maxLocals = 1 := hml0
  have hown : s.vm.findClass "com/example/loomwire/loomwire/transport/MessageBuffer" = some m.cls := findClass_of_methodNamed Bd.named
  have hnm := (name_of_methodNamed Bd.named Bd.method).1
  have X0 : Stand p l e ({ frames := 0, cells := 0, slots := 0, locals := 0 } : Room) s m #[(.ref b0)] below meth c s₁ [] 0 0 := Stand.of_body Bd
  have e0 : s₁.heap = h0 := by rw [← hh, Bd.state]; rfl
  have N0 := Fr.nil n0
  show own_G p.tables e below s (QQ_rm4 Z b0 em ke de kd vf vl vll vlen h0 n0) ({ frames := 0, cells := 0, slots := 0, locals := 0 } : Room).cells ({ frames := 0, cells := 0, slots := 0, locals := 0 } : Room).slots (s₁.setTop (entryFrame m #[(.ref b0)] 1))
  refine oS (B := s₁.setTop (mkF m 0 #[rv b0] [])) (fun t k => castTop (ef_rm4 m b0) k) ?_
  have V_em := BB.2.2.1.ext O0.2
  have E_em := BB.2.1.ext O0.2
  have V_de := BB.2.2.2.2.ext O0.2
  have K0 := Keep.refl h0 [b0]
  refine oS (B := s₁.setTop (mkF m 1 #[rv b0] [(.ref b0)])) (fun t k => XS.aloadN X0.here hx rfl (hb hby d4_0) rfl rfl k) ?_
  refine oS (B := s₁.setTop (mkF m 2 #[rv b0] [.null, (.ref b0)])) (fun t k => XS.aconstNull X0.here hx rfl (hb hby d4_1) k) ?_
  obtain ⟨T1, h1, X1, e1, W1, st1⟩ := putF X0 hx hZ hown (host := "") (Or.inl (ow hw 26 rfl)) Via.refl e0 F_full_b0 E_b0 (Or.inl (ow hw 27 rfl)) (ow hw 2 rfl) (ty := (.object "java/util/List")) (by decide) rfl rfl (g := (mkF m 2 #[rv b0] [.null, (.ref b0)])) rfl rfl (hb hby d4_2)
  have E_b0 := E_b0.wr W1
  have F_full_b0 := F_full_b0.same W1
  have F_last_b0 := F_last_b0.other W1 (Or.inr (slot_ne (Or.inl (ow hw 13 rfl)) (Or.inl (ow hw 27 rfl)) (by decide) (t := (.array .byte)) (t' := (.object "java/util/List")) (by decide) (by decide)))
  have F_lastLength_b0 := F_lastLength_b0.other W1 (Or.inr (slot_ne (Or.inl (ow hw 29 rfl)) (Or.inl (ow hw 27 rfl)) (by decide) (t := .int) (t' := (.object "java/util/List")) (by decide) (by decide)))
  have F_length_b0 := F_length_b0.other W1 (Or.inr (slot_ne (Or.inl (ow hw 20 rfl)) (Or.inl (ow hw 27 rfl)) (by decide) (t := .int) (t' := (.object "java/util/List")) (by decide) (by decide)))
  have E_em := E_em.wr W1
  have V_em := V_em.other W1 (ne_exa E_em E_b0 (by decide))
  have V_de := V_de.other W1 (O0.ne BB.2.2.2.2.lt g_b0)
  have Z0 := Nat.le_trans Z0 (Keep.of_wr W1).1
  have K0 := K0.wr W1 (Or.inl (List.mem_of_getElem? (i := 0) rfl))
  have N0 := Fr.snoc X1 N0 g_b0
  have O0 := O0.wr W1 g_b0
  refine oS (B := T1.setTop (mkF m 5 #[rv b0] [])) (fun t k => st1 t k) ?_
  refine oS (B := T1.setTop (mkF m 6 #[rv b0] [(.ref b0)])) (fun t k => XS.aloadN X1.here hx rfl (hb hby d4_5) rfl rfl k) ?_
  obtain ⟨T2, X2, e2, st2⟩ := getS2 X1 hx hZ hown (host := "") (Or.inl (ow hw 10 rfl)) Via.refl e1 (BB.1.ext O0.2) (g := (mkF m 6 #[rv b0] [(.ref b0)])) rfl (hb hby d4_6)
  refine oS (B := T2.setTop (mkF m 9 #[rv b0] [(.ref em), (.ref b0)])) (fun t k => st2 t k) ?_
  obtain ⟨T3, h3, X3, e3, W3, st3⟩ := putF X2 hx hZ hown (host := "") (Or.inl (ow hw 12 rfl)) Via.refl e2 F_last_b0 E_b0 (Or.inl (ow hw 13 rfl)) (ow hw 2 rfl) (ty := (.array .byte)) (by decide) rfl rfl (g := (mkF m 9 #[rv b0] [(.ref em), (.ref b0)])) rfl rfl (hb hby d4_9)
  have E_b0 := E_b0.wr W3
  have F_full_b0 := F_full_b0.other W3 (Or.inr (slot_ne (Or.inl (ow hw 27 rfl)) (Or.inl (ow hw 13 rfl)) (by decide) (t := (.object "java/util/List")) (t' := (.array .byte)) (by decide) (by decide)))
  have F_last_b0 := F_last_b0.same W3
  have F_lastLength_b0 := F_lastLength_b0.other W3 (Or.inr (slot_ne (Or.inl (ow hw 29 rfl)) (Or.inl (ow hw 13 rfl)) (by decide) (t := .int) (t' := (.array .byte)) (by decide) (by decide)))
  have F_length_b0 := F_length_b0.other W3 (Or.inr (slot_ne (Or.inl (ow hw 20 rfl)) (Or.inl (ow hw 13 rfl)) (by decide) (t := .int) (t' := (.array .byte)) (by decide) (by decide)))
  have E_em := E_em.wr W3
  have V_em := V_em.other W3 (ne_exa E_em E_b0 (by decide))
  have V_de := V_de.other W3 (O0.ne BB.2.2.2.2.lt g_b0)
  have Z0 := Nat.le_trans Z0 (Keep.of_wr W3).1
  have K0 := K0.wr W3 (Or.inl (List.mem_of_getElem? (i := 0) rfl))
  have N0 := Fr.snoc X3 N0 g_b0
  have O0 := O0.wr W3 g_b0
  refine oS (B := T3.setTop (mkF m 12 #[rv b0] [])) (fun t k => st3 t k) ?_
  refine oS (B := T3.setTop (mkF m 13 #[rv b0] [(.ref b0)])) (fun t k => XS.aloadN X3.here hx rfl (hb hby d4_12) rfl rfl k) ?_
  refine oS (B := T3.setTop (mkF m 14 #[rv b0] [(.int 0), (.ref b0)])) (fun t k => XS.iconst X3.here hx rfl (hb hby d4_13) k) ?_
  obtain ⟨T4, h4, X4, e4, W4, st4⟩ := putF X3 hx hZ hown (host := "") (Or.inl (ow hw 28 rfl)) Via.refl e3 F_lastLength_b0 E_b0 (Or.inl (ow hw 29 rfl)) (ow hw 2 rfl) (ty := .int) (by decide) rfl rfl (g := (mkF m 14 #[rv b0] [(.int 0), (.ref b0)])) rfl rfl (hb hby d4_14)
  have E_b0 := E_b0.wr W4
  have F_full_b0 := F_full_b0.other W4 (Or.inr (slot_ne (Or.inl (ow hw 27 rfl)) (Or.inl (ow hw 29 rfl)) (by decide) (t := (.object "java/util/List")) (t' := .int) (by decide) (by decide)))
  have F_last_b0 := F_last_b0.other W4 (Or.inr (slot_ne (Or.inl (ow hw 13 rfl)) (Or.inl (ow hw 29 rfl)) (by decide) (t := (.array .byte)) (t' := .int) (by decide) (by decide)))
  have F_lastLength_b0 := F_lastLength_b0.same W4
  have F_length_b0 := F_length_b0.other W4 (Or.inr (slot_ne (Or.inl (ow hw 20 rfl)) (Or.inl (ow hw 29 rfl)) (by decide) (t := .int) (t' := .int) (by decide) (by decide)))
  have E_em := E_em.wr W4
  have V_em := V_em.other W4 (ne_exa E_em E_b0 (by decide))
  have V_de := V_de.other W4 (O0.ne BB.2.2.2.2.lt g_b0)
  have Z0 := Nat.le_trans Z0 (Keep.of_wr W4).1
  have K0 := K0.wr W4 (Or.inl (List.mem_of_getElem? (i := 0) rfl))
  have N0 := Fr.snoc X4 N0 g_b0
  have O0 := O0.wr W4 g_b0
  refine oS (B := T4.setTop (mkF m 17 #[rv b0] [])) (fun t k => st4 t k) ?_
  refine oS (B := T4.setTop (mkF m 18 #[rv b0] [(.ref b0)])) (fun t k => XS.aloadN X4.here hx rfl (hb hby d4_17) rfl rfl k) ?_
  refine oS (B := T4.setTop (mkF m 19 #[rv b0] [(.int 0), (.ref b0)])) (fun t k => XS.iconst X4.here hx rfl (hb hby d4_18) k) ?_
  obtain ⟨T5, h5, X5, e5, W5, st5⟩ := putF X4 hx hZ hown (host := "") (Or.inl (ow hw 19 rfl)) Via.refl e4 F_length_b0 E_b0 (Or.inl (ow hw 20 rfl)) (ow hw 2 rfl) (ty := .int) (by decide) rfl rfl (g := (mkF m 19 #[rv b0] [(.int 0), (.ref b0)])) rfl rfl (hb hby d4_19)
  have E_b0 := E_b0.wr W5
  have F_full_b0 := F_full_b0.other W5 (Or.inr (slot_ne (Or.inl (ow hw 27 rfl)) (Or.inl (ow hw 20 rfl)) (by decide) (t := (.object "java/util/List")) (t' := .int) (by decide) (by decide)))
  have F_last_b0 := F_last_b0.other W5 (Or.inr (slot_ne (Or.inl (ow hw 13 rfl)) (Or.inl (ow hw 20 rfl)) (by decide) (t := (.array .byte)) (t' := .int) (by decide) (by decide)))
  have F_lastLength_b0 := F_lastLength_b0.other W5 (Or.inr (slot_ne (Or.inl (ow hw 29 rfl)) (Or.inl (ow hw 20 rfl)) (by decide) (t := .int) (t' := .int) (by decide) (by decide)))
  have F_length_b0 := F_length_b0.same W5
  have E_em := E_em.wr W5
  have V_em := V_em.other W5 (ne_exa E_em E_b0 (by decide))
  have V_de := V_de.other W5 (O0.ne BB.2.2.2.2.lt g_b0)
  have Z0 := Nat.le_trans Z0 (Keep.of_wr W5).1
  have K0 := K0.wr W5 (Or.inl (List.mem_of_getElem? (i := 0) rfl))
  have N0 := Fr.snoc X5 N0 g_b0
  have O0 := O0.wr W5 g_b0
  refine oS (B := T5.setTop (mkF m 22 #[rv b0] [])) (fun t k => st5 t k) ?_
  exact own_retV X5 hx hlk Bd.returns (hb hby d4_22) (by decide) (by decide) (by rw [e5]; exact ⟨rfl, N0, K0, F_full_b0, F_last_b0, F_lastLength_b0, F_length_b0⟩)
theorem d5_0 : decode prog_102_method_3_code 0 = .ok (.aload_n 0, 1) := by decide +kernel
theorem d5_1 : decode prog_102_method_3_code 1 = .ok (.getfield 22, 3) := by decide +kernel
theorem d5_4 : decode prog_102_method_3_code 4 = .ok (.ireturn, 1) := by decide +kernel
theorem ef_rm5 (m : MethodId) (x0 : Addr) : entryFrame m #[(.ref x0)] 1 = mkF m 0 #[rv x0] [] := by first | (simp [entryFrame, mkF, argsToLocals, Value.category]; done) | rfl
def QQ_rm5 (Z : State) (b0 : Addr) (w : Int32) (h0 : Heap) (n0 : Nat) (v : Option Value) (h : Heap) (L : List Loc) : Prop := v = some (.int w) ∧ Fr n0 L ∧ h = h0
set_option maxRecDepth 65536 in
set_option maxHeartbeats 40000000 in
theorem rm5 (l : Launch) (Z : State) (a0 : Array Value) (hw : ∀ d ∈ tables_1, d.before a0 Z = true) (ws : List Jvm.Cond) (b0 : Addr) (w : Int32) (h0 : Heap) (n0 : Nat) (Z0 : n0 ≤ h0.size) (F_length_b0 : Fld Z h0 b0 "com/example/loomwire/loomwire/transport/MessageBuffer" "length" "I" (.int w)) :
    MetFree l (⟨"com/example/loomwire/loomwire/transport/MessageBuffer", "length", "()I"⟩ : MethodName) (head1 (Jvm.Cond.code (⟨"com/example/loomwire/loomwire/transport/MessageBuffer", "length", "()I"⟩ : MethodName) prog_102_method_3_code 1 (some .int) :: ws) ({ frames := 0, cells := 0, slots := 0, locals := 0 } : Room)) (fun a U => a = #[(.ref b0)] ∧ Z.Warmed39 U.vm ∧ U.heap = h0) (fun _ _ _ _ _ => True) (fun _ U o U' => ∃ v L, o = .returned v ∧ (QQ_rm5 Z b0 w h0 n0) v U'.heap L ∧ FrameEnd U o U' L ({ frames := 0, cells := 0, slots := 0, locals := 0 } : Room).cells ({ frames := 0, cells := 0, slots := 0, locals := 0 } : Room).slots) := by
  refine MetFree.of_bodySF (plainFor_of_name pn_com_example_loomwire_loomwire_transport_MessageBuffer) hisR ?_
  intro p e s m args below meth c s₁ Bd hml0 hP hK
  obtain ⟨rfl, hZ, hh⟩ := hP
  have hx := Bd.exec
  have hby := Bd.bytes
  have hlk : meth.locks = false := BodyLoose.notSynchronized Bd
  have hml : c.maxLocals = 1 := hml0
  have hown : s.vm.findClass "com/example/loomwire/loomwire/transport/MessageBuffer" = some m.cls := findClass_of_methodNamed Bd.named
  have hnm := (name_of_methodNamed Bd.named Bd.method).1
  have X0 : Stand p l e ({ frames := 0, cells := 0, slots := 0, locals := 0 } : Room) s m #[(.ref b0)] below meth c s₁ [] 0 0 := Stand.of_body Bd
  have e0 : s₁.heap = h0 := by rw [← hh, Bd.state]; rfl
  have N0 := Fr.nil n0
  show own_G p.tables e below s (QQ_rm5 Z b0 w h0 n0) ({ frames := 0, cells := 0, slots := 0, locals := 0 } : Room).cells ({ frames := 0, cells := 0, slots := 0, locals := 0 } : Room).slots (s₁.setTop (entryFrame m #[(.ref b0)] 1))
  refine oS (B := s₁.setTop (mkF m 0 #[rv b0] [])) (fun t k => castTop (ef_rm5 m b0) k) ?_
  refine oS (B := s₁.setTop (mkF m 1 #[rv b0] [(.ref b0)])) (fun t k => XS.aloadN X0.here hx rfl (hb hby d5_0) rfl rfl k) ?_
  obtain ⟨T1, X1, e1, st1⟩ := getF X0 hx hZ hown (host := "") (Or.inl (ow hw 19 rfl)) Via.refl e0 F_length_b0 (g := (mkF m 1 #[rv b0] [(.ref b0)])) rfl rfl (hb hby d5_1)
  refine oS (B := T1.setTop (mkF m 4 #[rv b0] [(.int w)])) (fun t k => st1 t k) ?_
  exact own_retI X1 hx hlk Bd.returns (hb hby d5_4) (by decide) (by decide) (by exact ⟨rfl, N0, e1⟩)
theorem d3_0 : decode prog_102_method_4_code 0 = .ok (.iconst 0, 1) := by decide +kernel
theorem d3_1 : decode prog_102_method_4_code 1 = .ok (.istore_n 2, 1) := by decide +kernel
theorem d3_2 : decode prog_102_method_4_code 2 = .ok (.iload_n 2, 1) := by decide +kernel
theorem d3_3 : decode prog_102_method_4_code 3 = .ok (.aload_n 1, 1) := by decide +kernel
theorem d3_4 : decode prog_102_method_4_code 4 = .ok (.arraylength, 1) := by decide +kernel
theorem d3_5 : decode prog_102_method_4_code 5 = .ok (.if_icmp .ge 136, 3) := by decide +kernel
theorem d3_141 : decode prog_102_method_4_code 141 = .ok (.aload_n 0, 1) := by decide +kernel
theorem d3_142 : decode prog_102_method_4_code 142 = .ok (.dup, 1) := by decide +kernel
theorem d3_143 : decode prog_102_method_4_code 143 = .ok (.getfield 22, 3) := by decide +kernel
theorem d3_146 : decode prog_102_method_4_code 146 = .ok (.aload_n 1, 1) := by decide +kernel
theorem d3_147 : decode prog_102_method_4_code 147 = .ok (.arraylength, 1) := by decide +kernel
theorem d3_148 : decode prog_102_method_4_code 148 = .ok (.iadd, 1) := by decide +kernel
theorem d3_149 : decode prog_102_method_4_code 149 = .ok (.putfield 22, 3) := by decide +kernel
theorem d3_152 : decode prog_102_method_4_code 152 = .ok (.return_, 1) := by decide +kernel
theorem ef_rma_0 (m : MethodId) (x0 : Addr) (x1 : Addr) : entryFrame m #[(.ref x0), (.ref x1)] 4 = mkF m 0 #[rv x0, rv x1, .unset, .unset] [] := by first | (simp [entryFrame, mkF, argsToLocals, Value.category]; done) | rfl
def QQ_rma_0 (Z : State) (b0 : Addr) (sa : Addr) (em : Addr) (ke : ClassId) (de : Addr) (kd : ClassId) (ks : ClassId) (vs : List Value) (h0 : Heap) (n0 : Nat) (v : Option Value) (h : Heap) (L : List Loc) : Prop := ∃ vf vl vll vlen : Value, v = none ∧ Fr n0 L ∧ Keep h0 h [b0] ∧ Fld Z h b0 "com/example/loomwire/loomwire/transport/MessageBuffer" "full" "Ljava/util/List;" vf ∧ Fld Z h b0 "com/example/loomwire/loomwire/transport/MessageBuffer" "last" "[B" vl ∧ Fld Z h b0 "com/example/loomwire/loomwire/transport/MessageBuffer" "lastLength" "I" vll ∧ Fld Z h b0 "com/example/loomwire/loomwire/transport/MessageBuffer" "length" "I" vlen
set_option maxRecDepth 65536 in
set_option maxHeartbeats 40000000 in
theorem rma_0 (l : Launch) (Z : State) (a0 : Array Value) (hw : ∀ d ∈ tables_1, d.before a0 Z = true) (ws : List Jvm.Cond) (b0 : Addr) (sa : Addr) (em : Addr) (ke : ClassId) (de : Addr) (kd : ClassId) (ks : ClassId) (vs : List Value) (h0 : Heap) (n0 : Nat) (Z0 : n0 ≤ h0.size) (E_b0 : Exa Z h0 b0 "com/example/loomwire/loomwire/transport/MessageBuffer") (g_b0 : n0 ≤ b0) (F_full_b0 : Fld Z h0 b0 "com/example/loomwire/loomwire/transport/MessageBuffer" "full" "Ljava/util/List;" .null) (F_last_b0 : Fld Z h0 b0 "com/example/loomwire/loomwire/transport/MessageBuffer" "last" "[B" (.ref em)) (F_lastLength_b0 : Fld Z h0 b0 "com/example/loomwire/loomwire/transport/MessageBuffer" "lastLength" "I" (.int 0)) (F_length_b0 : Fld Z h0 b0 "com/example/loomwire/loomwire/transport/MessageBuffer" "length" "I" (.int 0)) (BB : own_Base Z em ke de kd) (O0 : Old Z n0 h0) (ne_b0_sa : b0 ≠ sa) (V_sa : Arv Z h0 sa ks .byte (0 : Int32) vs (.int 0)) :
    MetFree l (⟨"com/example/loomwire/loomwire/transport/MessageBuffer", "append", "([B)V"⟩ : MethodName) (head1 (Jvm.Cond.code (⟨"com/example/loomwire/loomwire/transport/MessageBuffer", "append", "([B)V"⟩ : MethodName) prog_102_method_4_code 4 none :: ws) ({ frames := 5, cells := 4, slots := 65551, locals := 80 } : Room)) (fun a U => a = #[(.ref b0), (.ref sa)] ∧ Z.Warmed39 U.vm ∧ U.heap = h0) (fun _ _ _ _ _ => True) (fun _ U o U' => ∃ v L, o = .returned v ∧ (QQ_rma_0 Z b0 sa em ke de kd ks vs h0 n0) v U'.heap L ∧ FrameEnd U o U' L ({ frames := 5, cells := 4, slots := 65551, locals := 80 } : Room).cells ({ frames := 5, cells := 4, slots := 65551, locals := 80 } : Room).slots) := by
  refine MetFree.of_bodySF (plainFor_of_name pn_com_example_loomwire_loomwire_transport_MessageBuffer) hisR ?_
  intro p e s m args below meth c s₁ Bd hml0 hP hK
  obtain ⟨rfl, hZ, hh⟩ := hP
  have hx := Bd.exec
  have hby := Bd.bytes
  have hlk : meth.locks = false := BodyLoose.notSynchronized Bd
  have hml : c.maxLocals = 4 := hml0
  have hown : s.vm.findClass "com/example/loomwire/loomwire/transport/MessageBuffer" = some m.cls := findClass_of_methodNamed Bd.named
  have hnm := (name_of_methodNamed Bd.named Bd.method).1
  have X0 : Stand p l e ({ frames := 5, cells := 4, slots := 65551, locals := 80 } : Room) s m #[(.ref b0), (.ref sa)] below meth c s₁ [] 0 0 := Stand.of_body Bd
  have e0 : s₁.heap = h0 := by rw [← hh, Bd.state]; rfl
  have N0 := Fr.nil n0
  show own_G p.tables e below s (QQ_rma_0 Z b0 sa em ke de kd ks vs h0 n0) ({ frames := 5, cells := 4, slots := 65551, locals := 80 } : Room).cells ({ frames := 5, cells := 4, slots := 65551, locals := 80 } : Room).slots (s₁.setTop (entryFrame m #[(.ref b0), (.ref sa)] 4))
  refine oS (B := s₁.setTop (mkF m 0 #[rv b0, rv sa, .unset, .unset] [])) (fun t k => castTop (ef_rma_0 m b0 sa) k) ?_
  have V_em := BB.2.2.1.ext O0.2
  have E_em := BB.2.1.ext O0.2
  have V_de := BB.2.2.2.2.ext O0.2
  have K0 := Keep.refl h0 [b0]
  refine oS (B := s₁.setTop (mkF m 1 #[rv b0, rv sa, .unset, .unset] [(.int 0)])) (fun t k => XS.iconst X0.here hx rfl (hb hby d3_0) k) ?_
  refine oS (B := s₁.setTop (mkF m 2 #[rv b0, rv sa, iv 0, .unset] [])) (fun t k => XS.istoreN X0.here hx rfl (hb hby d3_1) rfl (l' := #[rv b0, rv sa, iv 0, .unset]) rfl k) ?_
  refine oS (B := s₁.setTop (mkF m 3 #[rv b0, rv sa, iv 0, .unset] [(.int 0)])) (fun t k => XS.iloadN X0.here hx rfl (hb hby d3_2) rfl k) ?_
  refine oS (B := s₁.setTop (mkF m 4 #[rv b0, rv sa, iv 0, .unset] [(.ref sa), (.int 0)])) (fun t k => XS.aloadN X0.here hx rfl (hb hby d3_3) rfl rfl k) ?_
  have Vo_1 := V_sa
  obtain ⟨cl_1, Ar_1, q_1, S_1, M_1, H_1, G_1⟩ := Vo_1
  refine oS (B := s₁.setTop (mkF m 5 #[rv b0, rv sa, iv 0, .unset] [(.int 0), (.int 0)])) (fun t k => X0.arraylength hx (by rw [e0]; exact Ar_1.1) (State.isArrayOf_alike hZ.alike Ar_1.2.1) (g := (mkF m 4 #[rv b0, rv sa, iv 0, .unset] [(.ref sa), (.int 0)])) rfl rfl (hb hby d3_4) t (by rw [len_of S_1 M_1]; exact k)) ?_
  refine oS (B := s₁.setTop (mkF m 141 #[rv b0, rv sa, iv 0, .unset] [])) (fun t k => XS.icmpYes X0.here hx rfl (pc0 := 5) (pc' := 141) rfl (hb hby d3_5) rfl (flt (by decide)).2.1 (by decide) (by decide) k) ?_
  refine oS (B := s₁.setTop (mkF m 142 #[rv b0, rv sa, iv 0, .unset] [(.ref b0)])) (fun t k => XS.aloadN X0.here hx rfl (hb hby d3_141) rfl rfl k) ?_
  refine oS (B := s₁.setTop (mkF m 143 #[rv b0, rv sa, iv 0, .unset] [(.ref b0), (.ref b0)])) (fun t k => XS.dup X0.here hx rfl (hb hby d3_142) rfl rfl k) ?_
  obtain ⟨T2, X2, e2, st2⟩ := getF X0 hx hZ hown (host := "") (Or.inl (ow hw 19 rfl)) Via.refl e0 F_length_b0 (g := (mkF m 143 #[rv b0, rv sa, iv 0, .unset] [(.ref b0), (.ref b0)])) rfl rfl (hb hby d3_143)
  refine oS (B := T2.setTop (mkF m 146 #[rv b0, rv sa, iv 0, .unset] [(.int 0), (.ref b0)])) (fun t k => st2 t k) ?_
  refine oS (B := T2.setTop (mkF m 147 #[rv b0, rv sa, iv 0, .unset] [(.ref sa), (.int 0), (.ref b0)])) (fun t k => XS.aloadN X2.here hx rfl (hb hby d3_146) rfl rfl k) ?_
  have Vo_3 := V_sa
  obtain ⟨cl_3, Ar_3, q_3, S_3, M_3, H_3, G_3⟩ := Vo_3
  refine oS (B := T2.setTop (mkF m 148 #[rv b0, rv sa, iv 0, .unset] [(.int 0), (.int 0), (.ref b0)])) (fun t k => X2.arraylength hx (by rw [e2]; exact Ar_3.1) (State.isArrayOf_alike hZ.alike Ar_3.2.1) (g := (mkF m 147 #[rv b0, rv sa, iv 0, .unset] [(.ref sa), (.int 0), (.ref b0)])) rfl rfl (hb hby d3_147) t (by rw [len_of S_3 M_3]; exact k)) ?_
  refine oS (B := T2.setTop (mkF m 149 #[rv b0, rv sa, iv 0, .unset] [(.int 0), (.ref b0)])) (fun t k => XS.iadd X2.here hx rfl (hb hby d3_148) rfl k) ?_
  obtain ⟨T4, h4, X4, e4, W4, st4⟩ := putF X2 hx hZ hown (host := "") (Or.inl (ow hw 19 rfl)) Via.refl e2 F_length_b0 E_b0 (Or.inl (ow hw 20 rfl)) (ow hw 2 rfl) (ty := .int) (by decide) rfl rfl (g := (mkF m 149 #[rv b0, rv sa, iv 0, .unset] [(.int 0), (.ref b0)])) rfl rfl (hb hby d3_149)
  have E_b0 := E_b0.wr W4
  have F_full_b0 := F_full_b0.other W4 (Or.inr (slot_ne (Or.inl (ow hw 27 rfl)) (Or.inl (ow hw 20 rfl)) (by decide) (t := (.object "java/util/List")) (t' := .int) (by decide) (by decide)))
  have F_last_b0 := F_last_b0.other W4 (Or.inr (slot_ne (Or.inl (ow hw 13 rfl)) (Or.inl (ow hw 20 rfl)) (by decide) (t := (.array .byte)) (t' := .int) (by decide) (by decide)))
  have F_lastLength_b0 := F_lastLength_b0.other W4 (Or.inr (slot_ne (Or.inl (ow hw 29 rfl)) (Or.inl (ow hw 20 rfl)) (by decide) (t := .int) (t' := .int) (by decide) (by decide)))
  have F_length_b0 := F_length_b0.same W4
  have V_sa := V_sa.other W4 (Ne.symm ne_b0_sa)
  have E_em := E_em.wr W4
  have V_em := V_em.other W4 (ne_exa E_em E_b0 (by decide))
  have V_de := V_de.other W4 (O0.ne BB.2.2.2.2.lt g_b0)
  have Z0 := Nat.le_trans Z0 (Keep.of_wr W4).1
  have K0 := K0.wr W4 (Or.inl (List.mem_of_getElem? (i := 0) rfl))
  have N0 := Fr.snoc X4 N0 g_b0
  have O0 := O0.wr W4 g_b0
  refine oS (B := T4.setTop (mkF m 152 #[rv b0, rv sa, iv 0, .unset] [])) (fun t k => st4 t k) ?_
  exact own_retV X4 hx hlk Bd.returns (hb hby d3_152) (by decide) (by decide) (by rw [e4]; exact ⟨_, _, _, _, rfl, N0, K0, F_full_b0, F_last_b0, F_lastLength_b0, F_length_b0⟩)
theorem d3_8 : decode prog_102_method_4_code 8 = .ok (.aload_n 0, 1) := by decide +kernel
theorem d3_9 : decode prog_102_method_4_code 9 = .ok (.getfield 26, 3) := by decide +kernel
theorem d3_12 : decode prog_102_method_4_code 12 = .ok (.ldc 29, 2) := by decide +kernel
theorem d3_14 : decode prog_102_method_4_code 14 = .ok (.if_icmp .ne 47, 3) := by decide +kernel
theorem d3_61 : decode prog_102_method_4_code 61 = .ok (.aload_n 1, 1) := by decide +kernel
theorem d3_62 : decode prog_102_method_4_code 62 = .ok (.arraylength, 1) := by decide +kernel
theorem d3_63 : decode prog_102_method_4_code 63 = .ok (.iload_n 2, 1) := by decide +kernel
theorem d3_64 : decode prog_102_method_4_code 64 = .ok (.isub, 1) := by decide +kernel
theorem d3_65 : decode prog_102_method_4_code 65 = .ok (.ldc 29, 2) := by decide +kernel
theorem d3_67 : decode prog_102_method_4_code 67 = .ok (.aload_n 0, 1) := by decide +kernel
theorem d3_68 : decode prog_102_method_4_code 68 = .ok (.getfield 26, 3) := by decide +kernel
theorem d3_71 : decode prog_102_method_4_code 71 = .ok (.isub, 1) := by decide +kernel
theorem d3_72 : decode prog_102_method_4_code 72 = .ok (.invokestatic 43, 3) := by decide +kernel
theorem d3_75 : decode prog_102_method_4_code 75 = .ok (.istore_n 3, 1) := by decide +kernel
theorem d3_76 : decode prog_102_method_4_code 76 = .ok (.aload_n 0, 1) := by decide +kernel
theorem d3_77 : decode prog_102_method_4_code 77 = .ok (.getfield 26, 3) := by decide +kernel
theorem d3_80 : decode prog_102_method_4_code 80 = .ok (.iload_n 3, 1) := by decide +kernel
theorem d3_81 : decode prog_102_method_4_code 81 = .ok (.iadd, 1) := by decide +kernel
theorem d3_82 : decode prog_102_method_4_code 82 = .ok (.aload_n 0, 1) := by decide +kernel
theorem d3_83 : decode prog_102_method_4_code 83 = .ok (.getfield 13, 3) := by decide +kernel
theorem d3_86 : decode prog_102_method_4_code 86 = .ok (.arraylength, 1) := by decide +kernel
theorem d3_87 : decode prog_102_method_4_code 87 = .ok (.if_icmp .le 23, 3) := by decide +kernel
theorem d3_90 : decode prog_102_method_4_code 90 = .ok (.aload_n 0, 1) := by decide +kernel
theorem d3_91 : decode prog_102_method_4_code 91 = .ok (.aload_n 0, 1) := by decide +kernel
theorem d3_92 : decode prog_102_method_4_code 92 = .ok (.getfield 13, 3) := by decide +kernel
theorem d3_95 : decode prog_102_method_4_code 95 = .ok (.aload_n 0, 1) := by decide +kernel
theorem d3_96 : decode prog_102_method_4_code 96 = .ok (.getfield 26, 3) := by decide +kernel
theorem d3_99 : decode prog_102_method_4_code 99 = .ok (.iload_n 3, 1) := by decide +kernel
theorem d3_100 : decode prog_102_method_4_code 100 = .ok (.iadd, 1) := by decide +kernel
theorem d3_101 : decode prog_102_method_4_code 101 = .ok (.invokestatic 18, 3) := by decide +kernel
theorem d3_104 : decode prog_102_method_4_code 104 = .ok (.invokestatic 49, 3) := by decide +kernel
theorem d3_107 : decode prog_102_method_4_code 107 = .ok (.putfield 13, 3) := by decide +kernel
theorem d3_110 : decode prog_102_method_4_code 110 = .ok (.aload_n 1, 1) := by decide +kernel
theorem d3_111 : decode prog_102_method_4_code 111 = .ok (.iload_n 2, 1) := by decide +kernel
theorem d3_112 : decode prog_102_method_4_code 112 = .ok (.aload_n 0, 1) := by decide +kernel
theorem d3_113 : decode prog_102_method_4_code 113 = .ok (.getfield 13, 3) := by decide +kernel
theorem d3_116 : decode prog_102_method_4_code 116 = .ok (.aload_n 0, 1) := by decide +kernel
theorem d3_117 : decode prog_102_method_4_code 117 = .ok (.getfield 26, 3) := by decide +kernel
theorem d3_120 : decode prog_102_method_4_code 120 = .ok (.iload_n 3, 1) := by decide +kernel
theorem d3_121 : decode prog_102_method_4_code 121 = .ok (.invokestatic 55, 3) := by decide +kernel
theorem d3_124 : decode prog_102_method_4_code 124 = .ok (.aload_n 0, 1) := by decide +kernel
theorem d3_125 : decode prog_102_method_4_code 125 = .ok (.dup, 1) := by decide +kernel
theorem d3_126 : decode prog_102_method_4_code 126 = .ok (.getfield 26, 3) := by decide +kernel
theorem d3_129 : decode prog_102_method_4_code 129 = .ok (.iload_n 3, 1) := by decide +kernel
theorem d3_130 : decode prog_102_method_4_code 130 = .ok (.iadd, 1) := by decide +kernel
theorem d3_131 : decode prog_102_method_4_code 131 = .ok (.putfield 26, 3) := by decide +kernel
theorem d3_134 : decode prog_102_method_4_code 134 = .ok (.iload_n 2, 1) := by decide +kernel
theorem d3_135 : decode prog_102_method_4_code 135 = .ok (.iload_n 3, 1) := by decide +kernel
theorem d3_136 : decode prog_102_method_4_code 136 = .ok (.iadd, 1) := by decide +kernel
theorem d3_137 : decode prog_102_method_4_code 137 = .ok (.istore_n 2, 1) := by decide +kernel
theorem d3_138 : decode prog_102_method_4_code 138 = .ok (.goto (-136), 3) := by decide +kernel
theorem ef_rma_1 (m : MethodId) (x0 : Addr) (x1 : Addr) : entryFrame m #[(.ref x0), (.ref x1)] 4 = mkF m 0 #[rv x0, rv x1, .unset, .unset] [] := by first | (simp [entryFrame, mkF, argsToLocals, Value.category]; done) | rfl
def QQ_rma_1 (Z : State) (b0 : Addr) (sa : Addr) (em : Addr) (ke : ClassId) (de : Addr) (kd : ClassId) (ks : ClassId) (vs : List Value) (h0 : Heap) (n0 : Nat) (v : Option Value) (h : Heap) (L : List Loc) : Prop := ∃ vf vl vll vlen : Value, v = none ∧ Fr n0 L ∧ Keep h0 h [b0] ∧ Fld Z h b0 "com/example/loomwire/loomwire/transport/MessageBuffer" "full" "Ljava/util/List;" vf ∧ Fld Z h b0 "com/example/loomwire/loomwire/transport/MessageBuffer" "last" "[B" vl ∧ Fld Z h b0 "com/example/loomwire/loomwire/transport/MessageBuffer" "lastLength" "I" vll ∧ Fld Z h b0 "com/example/loomwire/loomwire/transport/MessageBuffer" "length" "I" vlen
set_option maxRecDepth 65536 in
set_option maxHeartbeats 40000000 in
theorem rma_1 (l : Launch) (Z : State) (a0 : Array Value) (hw : ∀ d ∈ tables_1, d.before a0 Z = true) (ws : List Jvm.Cond) (b0 : Addr) (sa : Addr) (em : Addr) (ke : ClassId) (de : Addr) (kd : ClassId) (ks : ClassId) (vs : List Value) (h0 : Heap) (n0 : Nat) (Z0 : n0 ≤ h0.size) (E_b0 : Exa Z h0 b0 "com/example/loomwire/loomwire/transport/MessageBuffer") (g_b0 : n0 ≤ b0) (F_full_b0 : Fld Z h0 b0 "com/example/loomwire/loomwire/transport/MessageBuffer" "full" "Ljava/util/List;" .null) (F_last_b0 : Fld Z h0 b0 "com/example/loomwire/loomwire/transport/MessageBuffer" "last" "[B" (.ref em)) (F_lastLength_b0 : Fld Z h0 b0 "com/example/loomwire/loomwire/transport/MessageBuffer" "lastLength" "I" (.int 0)) (F_length_b0 : Fld Z h0 b0 "com/example/loomwire/loomwire/transport/MessageBuffer" "length" "I" (.int 0)) (BB : own_Base Z em ke de kd) (O0 : Old Z n0 h0) (ne_b0_sa : b0 ≠ sa) (V_sa : Arv Z h0 sa ks .byte (1 : Int32) vs (.int 0)) :
    MetFree l (⟨"com/example/loomwire/loomwire/transport/MessageBuffer", "append", "([B)V"⟩ : MethodName) (head1 (Jvm.Cond.code (⟨"com/example/loomwire/loomwire/transport/MessageBuffer", "append", "([B)V"⟩ : MethodName) prog_102_method_4_code 4 none :: ws) ({ frames := 5, cells := 4, slots := 65551, locals := 80 } : Room)) (fun a U => a = #[(.ref b0), (.ref sa)] ∧ Z.Warmed39 U.vm ∧ U.heap = h0) (fun _ _ _ _ _ => True) (fun _ U o U' => ∃ v L, o = .returned v ∧ (QQ_rma_1 Z b0 sa em ke de kd ks vs h0 n0) v U'.heap L ∧ FrameEnd U o U' L ({ frames := 5, cells := 4, slots := 65551, locals := 80 } : Room).cells ({ frames := 5, cells := 4, slots := 65551, locals := 80 } : Room).slots) := by
  refine MetFree.of_bodySF (plainFor_of_name pn_com_example_loomwire_loomwire_transport_MessageBuffer) hisR ?_
  intro p e s m args below meth c s₁ Bd hml0 hP hK
  obtain ⟨rfl, hZ, hh⟩ := hP
  have hx := Bd.exec
  have hby := Bd.bytes
  have hlk : meth.locks = false := BodyLoose.notSynchronized Bd
  have hml : c.maxLocals = 4 := hml0
  have hown : s.vm.findClass "com/example/loomwire/loomwire/transport/MessageBuffer" = some m.cls := findClass_of_methodNamed Bd.named
  have hnm := (name_of_methodNamed Bd.named Bd.method).1
  have X0 : Stand p l e ({ frames := 5, cells := 4, slots := 65551, locals := 80 } : Room) s m #[(.ref b0), (.ref sa)] below meth c s₁ [] 0 0 := Stand.of_body Bd
  have e0 : s₁.heap = h0 := by rw [← hh, Bd.state]; rfl
  have N0 := Fr.nil n0
  show own_G p.tables e below s (QQ_rma_1 Z b0 sa em ke de kd ks vs h0 n0) ({ frames := 5, cells := 4, slots := 65551, locals := 80 } : Room).cells ({ frames := 5, cells := 4, slots := 65551, locals := 80 } : Room).slots (s₁.setTop (entryFrame m #[(.ref b0), (.ref sa)] 4))
  refine oS (B := s₁.setTop (mkF m 0 #[rv b0, rv sa, .unset, .unset] [])) (fun t k => castTop (ef_rma_1 m b0 sa) k) ?_
  have V_em := BB.2.2.1.ext O0.2
  have E_em := BB.2.1.ext O0.2
  have V_de := BB.2.2.2.2.ext O0.2
  have K0 := Keep.refl h0 [b0]
  refine oS (B := s₁.setTop (mkF m 1 #[rv b0, rv sa, .unset, .unset] [(.int 0)])) (fun t k => XS.iconst X0.here hx rfl (hb hby d3_0) k) ?_
  refine oS (B := s₁.setTop (mkF m 2 #[rv b0, rv sa, iv 0, .unset] [])) (fun t k => XS.istoreN X0.here hx rfl (hb hby d3_1) rfl (l' := #[rv b0, rv sa, iv 0, .unset]) rfl k) ?_
  refine oS (B := s₁.setTop (mkF m 3 #[rv b0, rv sa, iv 0, .unset] [(.int 0)])) (fun t k => XS.iloadN X0.here hx rfl (hb hby d3_2) rfl k) ?_
  refine oS (B := s₁.setTop (mkF m 4 #[rv b0, rv sa, iv 0, .unset] [(.ref sa), (.int 0)])) (fun t k => XS.aloadN X0.here hx rfl (hb hby d3_3) rfl rfl k) ?_
  have Vo_1 := V_sa
  obtain ⟨cl_1, Ar_1, q_1, S_1, M_1, H_1, G_1⟩ := Vo_1
  refine oS (B := s₁.setTop (mkF m 5 #[rv b0, rv sa, iv 0, .unset] [(.int 1), (.int 0)])) (fun t k => X0.arraylength hx (by rw [e0]; exact Ar_1.1) (State.isArrayOf_alike hZ.alike Ar_1.2.1) (g := (mkF m 4 #[rv b0, rv sa, iv 0, .unset] [(.ref sa), (.int 0)])) rfl rfl (hb hby d3_4) t (by rw [len_of S_1 M_1]; exact k)) ?_
  refine oS (B := s₁.setTop (mkF m 8 #[rv b0, rv sa, iv 0, .unset] [])) (fun t k => XS.icmpNo X0.here hx rfl (hb hby d3_5) rfl (tlt (by decide)).2.1 k) ?_
  refine oS (B := s₁.setTop (mkF m 9 #[rv b0, rv sa, iv 0, .unset] [(.ref b0)])) (fun t k => XS.aloadN X0.here hx rfl (hb hby d3_8) rfl rfl k) ?_
  obtain ⟨T2, X2, e2, st2⟩ := getF X0 hx hZ hown (host := "") (Or.inl (ow hw 28 rfl)) Via.refl e0 F_lastLength_b0 (g := (mkF m 9 #[rv b0, rv sa, iv 0, .unset] [(.ref b0)])) rfl rfl (hb hby d3_9)
  refine oS (B := T2.setTop (mkF m 12 #[rv b0, rv sa, iv 0, .unset] [(.int 0)])) (fun t k => st2 t k) ?_
  refine oS (B := T2.setTop (mkF m 14 #[rv b0, rv sa, iv 0, .unset] [(.int 65536), (.int 0)])) (fun t k => X2.ldcInt hx hown (mvT hZ (ow hw 54 rfl)) (g := (mkF m 12 #[rv b0, rv sa, iv 0, .unset] [(.int 0)])) rfl (hb hby d3_12) t k) ?_
  refine oS (B := T2.setTop (mkF m 61 #[rv b0, rv sa, iv 0, .unset] [])) (fun t k => XS.icmpYes X2.here hx rfl (pc0 := 14) (pc' := 61) rfl (hb hby d3_14) rfl (feq (by decide)).2 (by decide) (by decide) k) ?_
  refine oS (B := T2.setTop (mkF m 62 #[rv b0, rv sa, iv 0, .unset] [(.ref sa)])) (fun t k => XS.aloadN X2.here hx rfl (hb hby d3_61) rfl rfl k) ?_
  have Vo_3 := V_sa
  obtain ⟨cl_3, Ar_3, q_3, S_3, M_3, H_3, G_3⟩ := Vo_3
  refine oS (B := T2.setTop (mkF m 63 #[rv b0, rv sa, iv 0, .unset] [(.int 1)])) (fun t k => X2.arraylength hx (by rw [e2]; exact Ar_3.1) (State.isArrayOf_alike hZ.alike Ar_3.2.1) (g := (mkF m 62 #[rv b0, rv sa, iv 0, .unset] [(.ref sa)])) rfl rfl (hb hby d3_62) t (by rw [len_of S_3 M_3]; exact k)) ?_
  refine oS (B := T2.setTop (mkF m 64 #[rv b0, rv sa, iv 0, .unset] [(.int 0), (.int 1)])) (fun t k => XS.iloadN X2.here hx rfl (hb hby d3_63) rfl k) ?_
  refine oS (B := T2.setTop (mkF m 65 #[rv b0, rv sa, iv 0, .unset] [(.int 1)])) (fun t k => XS.isub X2.here hx rfl (hb hby d3_64) rfl k) ?_
  refine oS (B := T2.setTop (mkF m 67 #[rv b0, rv sa, iv 0, .unset] [(.int 65536), (.int 1)])) (fun t k => X2.ldcInt hx hown (mvT hZ (ow hw 54 rfl)) (g := (mkF m 65 #[rv b0, rv sa, iv 0, .unset] [(.int 1)])) rfl (hb hby d3_65) t k) ?_
  refine oS (B := T2.setTop (mkF m 68 #[rv b0, rv sa, iv 0, .unset] [(.ref b0), (.int 65536), (.int 1)])) (fun t k => XS.aloadN X2.here hx rfl (hb hby d3_67) rfl rfl k) ?_
  obtain ⟨T4, X4, e4, st4⟩ := getF X2 hx hZ hown (host := "") (Or.inl (ow hw 28 rfl)) Via.refl e2 F_lastLength_b0 (g := (mkF m 68 #[rv b0, rv sa, iv 0, .unset] [(.ref b0), (.int 65536), (.int 1)])) rfl rfl (hb hby d3_68)
  refine oS (B := T4.setTop (mkF m 71 #[rv b0, rv sa, iv 0, .unset] [(.int 0), (.int 65536), (.int 1)])) (fun t k => st4 t k) ?_
  refine oS (B := T4.setTop (mkF m 72 #[rv b0, rv sa, iv 0, .unset] [(.int 65536), (.int 1)])) (fun t k => XS.isub X4.here hx rfl (hb hby d3_71) rfl k) ?_
  obtain ⟨_, _, ⟨T5, L5, k5, n5⟩, -, X5, ⟨Lc5, hQ5, l5, y5, z5⟩, st5⟩ := Jvm.LawKit.callS X4 hx (y := (⟨"java/lang/Math", "min", "(II)I"⟩ : MethodName)) hown (mvT hZ (ow hw 55 rfl)) (mvT hZ (ow hw 56 rfl)) (mvT hZ (ow hw 57 rfl)) (mvT hZ (ow hw 58 rfl)) (by decide) (backOf (W := 0) (rm8 l Z a0 hw [] (1 : Int32) (65536 : Int32)  h0 n0 Z0 ) hZ (ow hw 58 rfl) (ow hw 57 rfl) (by decide) (by decide)) (g := (mkF m 72 #[rv b0, rv sa, iv 0, .unset] [(.int 65536), (.int 1)])) rfl (by rw [hml]; rfl) (argsL := [(.int 1), (.int 65536)]) (rest := []) (lenOf pd_1 rfl) rfl (by show 2 * 0 + _ ≤ _; exact Nat.le_of_eq rfl) (hb hby d3_72) (fun _ _ => ⟨rfl, e4, (by decide : 0 + 0 ≤ _), (by decide : 0 + 0 ≤ _)⟩)
  dsimp only [Pt.U, Pt.locs, Pt.cells, Pt.slots] at X5 l5 y5 z5 st5 hQ5
  subst l5 y5 z5
  obtain ⟨rfl, N5q, e5⟩ := hQ5
  have N0 := Fr.app N0 N5q
  refine oS (B := T5.setTop (mkF m 75 #[rv b0, rv sa, iv 0, .unset] [(.int (own_min (1 : Int32) (65536 : Int32)))])) (fun t k => st5 t k) ?_
  have hlit5 : (own_min (1 : Int32) (65536 : Int32)) = (1 : Int32) := by decide
  rw [hlit5]
  refine oS (B := T5.setTop (mkF m 76 #[rv b0, rv sa, iv 0, iv 1] [])) (fun t k => XS.istoreN X5.here hx rfl (hb hby d3_75) rfl (l' := #[rv b0, rv sa, iv 0, iv 1]) rfl k) ?_
  refine oS (B := T5.setTop (mkF m 77 #[rv b0, rv sa, iv 0, iv 1] [(.ref b0)])) (fun t k => XS.aloadN X5.here hx rfl (hb hby d3_76) rfl rfl k) ?_
  obtain ⟨T6, X6, e6, st6⟩ := getF X5 hx hZ hown (host := "") (Or.inl (ow hw 28 rfl)) Via.refl e5 F_lastLength_b0 (g := (mkF m 77 #[rv b0, rv sa, iv 0, iv 1] [(.ref b0)])) rfl rfl (hb hby d3_77)
  refine oS (B := T6.setTop (mkF m 80 #[rv b0, rv sa, iv 0, iv 1] [(.int 0)])) (fun t k => st6 t k) ?_
  refine oS (B := T6.setTop (mkF m 81 #[rv b0, rv sa, iv 0, iv 1] [(.int 1), (.int 0)])) (fun t k => XS.iloadN X6.here hx rfl (hb hby d3_80) rfl k) ?_
  refine oS (B := T6.setTop (mkF m 82 #[rv b0, rv sa, iv 0, iv 1] [(.int 1)])) (fun t k => XS.iadd X6.here hx rfl (hb hby d3_81) rfl k) ?_
  refine oS (B := T6.setTop (mkF m 83 #[rv b0, rv sa, iv 0, iv 1] [(.ref b0), (.int 1)])) (fun t k => XS.aloadN X6.here hx rfl (hb hby d3_82) rfl rfl k) ?_
  obtain ⟨T7, X7, e7, st7⟩ := getF X6 hx hZ hown (host := "") (Or.inl (ow hw 12 rfl)) Via.refl e6 F_last_b0 (g := (mkF m 83 #[rv b0, rv sa, iv 0, iv 1] [(.ref b0), (.int 1)])) rfl rfl (hb hby d3_83)
  refine oS (B := T7.setTop (mkF m 86 #[rv b0, rv sa, iv 0, iv 1] [(.ref em), (.int 1)])) (fun t k => st7 t k) ?_
  have Vo_8 := V_em
  obtain ⟨cl_8, Ar_8, q_8, S_8, M_8, H_8, G_8⟩ := Vo_8
  refine oS (B := T7.setTop (mkF m 87 #[rv b0, rv sa, iv 0, iv 1] [(.int 0), (.int 1)])) (fun t k => X7.arraylength hx (by rw [e7]; exact Ar_8.1) (State.isArrayOf_alike hZ.alike Ar_8.2.1) (g := (mkF m 86 #[rv b0, rv sa, iv 0, iv 1] [(.ref em), (.int 1)])) rfl rfl (hb hby d3_86) t (by rw [len_of S_8 M_8]; exact k)) ?_
  refine oS (B := T7.setTop (mkF m 90 #[rv b0, rv sa, iv 0, iv 1] [])) (fun t k => XS.icmpNo X7.here hx rfl (hb hby d3_87) rfl (tlt (by decide)).2.2.2 k) ?_
  refine oS (B := T7.setTop (mkF m 91 #[rv b0, rv sa, iv 0, iv 1] [(.ref b0)])) (fun t k => XS.aloadN X7.here hx rfl (hb hby d3_90) rfl rfl k) ?_
  refine oS (B := T7.setTop (mkF m 92 #[rv b0, rv sa, iv 0, iv 1] [(.ref b0), (.ref b0)])) (fun t k => XS.aloadN X7.here hx rfl (hb hby d3_91) rfl rfl k) ?_
  obtain ⟨T9, X9, e9, st9⟩ := getF X7 hx hZ hown (host := "") (Or.inl (ow hw 12 rfl)) Via.refl e7 F_last_b0 (g := (mkF m 92 #[rv b0, rv sa, iv 0, iv 1] [(.ref b0), (.ref b0)])) rfl rfl (hb hby d3_92)
  refine oS (B := T9.setTop (mkF m 95 #[rv b0, rv sa, iv 0, iv 1] [(.ref em), (.ref b0)])) (fun t k => st9 t k) ?_
  refine oS (B := T9.setTop (mkF m 96 #[rv b0, rv sa, iv 0, iv 1] [(.ref b0), (.ref em), (.ref b0)])) (fun t k => XS.aloadN X9.here hx rfl (hb hby d3_95) rfl rfl k) ?_
  obtain ⟨T10, X10, e10, st10⟩ := getF X9 hx hZ hown (host := "") (Or.inl (ow hw 28 rfl)) Via.refl e9 F_lastLength_b0 (g := (mkF m 96 #[rv b0, rv sa, iv 0, iv 1] [(.ref b0), (.ref em), (.ref b0)])) rfl rfl (hb hby d3_96)
  refine oS (B := T10.setTop (mkF m 99 #[rv b0, rv sa, iv 0, iv 1] [(.int 0), (.ref em), (.ref b0)])) (fun t k => st10 t k) ?_
  refine oS (B := T10.setTop (mkF m 100 #[rv b0, rv sa, iv 0, iv 1] [(.int 1), (.int 0), (.ref em), (.ref b0)])) (fun t k => XS.iloadN X10.here hx rfl (hb hby d3_99) rfl k) ?_
  refine oS (B := T10.setTop (mkF m 101 #[rv b0, rv sa, iv 0, iv 1] [(.int 1), (.ref em), (.ref b0)])) (fun t k => XS.iadd X10.here hx rfl (hb hby d3_100) rfl k) ?_
  obtain ⟨_, _, ⟨T11, L11, k11, n11⟩, -, X11, ⟨Lc11, hQ11, l11, y11, z11⟩, st11⟩ := Jvm.LawKit.callS X10 hx (y := (⟨"com/example/loomwire/loomwire/transport/MessageBuffer", "chunkCapacity", "(I)I"⟩ : MethodName)) hown (mvT hZ (ow hw 59 rfl)) (mvT hZ (ow hw 60 rfl)) (mvT hZ (ow hw 3 rfl)) (mvT hZ (ow hw 61 rfl)) (by decide) (backOf (W := 2) (rm9_1 l Z a0 hw []   h0 n0 Z0 ) hZ (ow hw 61 rfl) (ow hw 3 rfl) (by decide) (by decide)) (g := (mkF m 101 #[rv b0, rv sa, iv 0, iv 1] [(.int 1), (.ref em), (.ref b0)])) rfl (by rw [hml]; rfl) (argsL := [(.int 1)]) (rest := [(.ref em), (.ref b0)]) (lenOf pd_0 rfl) rfl (by show 2 * 0 + _ ≤ _; exact Nat.le_of_eq rfl) (hb hby d3_101) (fun _ _ => ⟨rfl, e10, (by decide : 0 + 0 ≤ _), (by decide : 0 + 0 ≤ _)⟩)
  dsimp only [Pt.U, Pt.locs, Pt.cells, Pt.slots] at X11 l11 y11 z11 st11 hQ11
  subst l11 y11 z11
  obtain ⟨rfl, N11q, e11⟩ := hQ11
  have N0 := Fr.app N0 N11q
  refine oS (B := T11.setTop (mkF m 104 #[rv b0, rv sa, iv 0, iv 1] [(.int 1), (.ref em), (.ref b0)])) (fun t k => st11 t k) ?_
  have lt_b0 := E_b0.lt
  have lt_sa := V_sa.lt
  have KZ := K0
  obtain ⟨_, _, ⟨T12, L12, k12, n12⟩, -, X12, ⟨Lc12, hQ12, l12, y12, z12⟩, st12⟩ := Jvm.LawKit.callS X11 hx (y := (⟨"java/util/Arrays", "copyOf", "([BI)[B"⟩ : MethodName)) hown (mvT hZ (ow hw 40 rfl)) (mvT hZ (ow hw 41 rfl)) (mvT hZ (ow hw 42 rfl)) (mvT hZ (ow hw 43 rfl)) (by decide) (backOf (W := 1) (rmg_1 l Z a0 hw []  em ke de kd h0 n0 Z0 BB O0) hZ (ow hw 43 rfl) (ow hw 42 rfl) (by decide) (by decide)) (g := (mkF m 104 #[rv b0, rv sa, iv 0, iv 1] [(.int 1), (.ref em), (.ref b0)])) rfl (by rw [hml]; rfl) (argsL := [(.ref em), (.int 1)]) (rest := [(.ref b0)]) (lenOf pd_6 rfl) rfl (by show 2 * 0 + _ ≤ _; exact Nat.le_of_eq rfl) (hb hby d3_104) (fun _ _ => ⟨rfl, e11, (by decide : 0 + 1 ≤ _), (by decide : 0 + 1 ≤ _)⟩)
  dsimp only [Pt.U, Pt.locs, Pt.cells, Pt.slots] at X12 l12 y12 z12 st12 hQ12
  subst l12 y12 z12
  obtain ⟨la, kla, vla, rfl, N12q, K12, g_la, sz'_la, E_la, V_la, hlla⟩ := hQ12
  have N0 := Fr.app N0 N12q
  have E_b0 := E_b0.keep K12
  have F_full_b0 := F_full_b0.keep K12 nin0
  have F_last_b0 := F_last_b0.keep K12 nin0
  have F_lastLength_b0 := F_lastLength_b0.keep K12 nin0
  have F_length_b0 := F_length_b0.keep K12 nin0
  have V_sa := V_sa.keep K12 nin0
  have E_em := E_em.keep K12
  have V_em := V_em.keep K12 nin0
  have V_de := V_de.keep K12 nin0
  have Z0 := Nat.le_trans Z0 K12.1
  have O0 := O0.keep K12 all0
  have K0 := K0.trans K12 all0
  have ne_b0_la : b0 ≠ la := Nat.ne_of_lt (Nat.lt_of_lt_of_le lt_b0 sz'_la)
  have ne_sa_la : sa ≠ la := Nat.ne_of_lt (Nat.lt_of_lt_of_le lt_sa sz'_la)
  have sz_la : h0.size ≤ la := Nat.le_trans KZ.1 sz'_la
  refine oS (B := T12.setTop (mkF m 107 #[rv b0, rv sa, iv 0, iv 1] [(.ref la), (.ref b0)])) (fun t k => st12 t k) ?_
  obtain ⟨T13, h13, X13, e13, W13, st13⟩ := putF X12 hx hZ hown (host := "") (Or.inl (ow hw 12 rfl)) Via.refl rfl F_last_b0 E_b0 (Or.inl (ow hw 13 rfl)) (ow hw 2 rfl) (ty := (.array .byte)) (by decide) rfl rfl (g := (mkF m 107 #[rv b0, rv sa, iv 0, iv 1] [(.ref la), (.ref b0)])) rfl rfl (hb hby d3_107)
  have E_b0 := E_b0.wr W13
  have F_full_b0 := F_full_b0.other W13 (Or.inr (slot_ne (Or.inl (ow hw 27 rfl)) (Or.inl (ow hw 13 rfl)) (by decide) (t := (.object "java/util/List")) (t' := (.array .byte)) (by decide) (by decide)))
  have F_last_b0 := F_last_b0.same W13
  have F_lastLength_b0 := F_lastLength_b0.other W13 (Or.inr (slot_ne (Or.inl (ow hw 29 rfl)) (Or.inl (ow hw 13 rfl)) (by decide) (t := .int) (t' := (.array .byte)) (by decide) (by decide)))
  have F_length_b0 := F_length_b0.other W13 (Or.inr (slot_ne (Or.inl (ow hw 20 rfl)) (Or.inl (ow hw 13 rfl)) (by decide) (t := .int) (t' := (.array .byte)) (by decide) (by decide)))
  have V_sa := V_sa.other W13 (Ne.symm ne_b0_sa)
  have E_em := E_em.wr W13
  have V_em := V_em.other W13 (ne_exa E_em E_b0 (by decide))
  have V_de := V_de.other W13 (O0.ne BB.2.2.2.2.lt g_b0)
  have E_la := E_la.wr W13
  have V_la := V_la.other W13 (Ne.symm ne_b0_la)
  have Z0 := Nat.le_trans Z0 (Keep.of_wr W13).1
  have K0 := K0.wr W13 (Or.inl (List.mem_of_getElem? (i := 0) rfl))
  have N0 := Fr.snoc X13 N0 g_b0
  have O0 := O0.wr W13 g_b0
  refine oS (B := T13.setTop (mkF m 110 #[rv b0, rv sa, iv 0, iv 1] [])) (fun t k => st13 t k) ?_
  refine oS (B := T13.setTop (mkF m 111 #[rv b0, rv sa, iv 0, iv 1] [(.ref sa)])) (fun t k => XS.aloadN X13.here hx rfl (hb hby d3_110) rfl rfl k) ?_
  refine oS (B := T13.setTop (mkF m 112 #[rv b0, rv sa, iv 0, iv 1] [(.int 0), (.ref sa)])) (fun t k => XS.iloadN X13.here hx rfl (hb hby d3_111) rfl k) ?_
  refine oS (B := T13.setTop (mkF m 113 #[rv b0, rv sa, iv 0, iv 1] [(.ref b0), (.int 0), (.ref sa)])) (fun t k => XS.aloadN X13.here hx rfl (hb hby d3_112) rfl rfl k) ?_
  obtain ⟨T14, X14, e14, st14⟩ := getF X13 hx hZ hown (host := "") (Or.inl (ow hw 12 rfl)) Via.refl e13 F_last_b0 (g := (mkF m 113 #[rv b0, rv sa, iv 0, iv 1] [(.ref b0), (.int 0), (.ref sa)])) rfl rfl (hb hby d3_113)
  refine oS (B := T14.setTop (mkF m 116 #[rv b0, rv sa, iv 0, iv 1] [(.ref la), (.int 0), (.ref sa)])) (fun t k => st14 t k) ?_
  refine oS (B := T14.setTop (mkF m 117 #[rv b0, rv sa, iv 0, iv 1] [(.ref b0), (.ref la), (.int 0), (.ref sa)])) (fun t k => XS.aloadN X14.here hx rfl (hb hby d3_116) rfl rfl k) ?_
  obtain ⟨T15, X15, e15, st15⟩ := getF X14 hx hZ hown (host := "") (Or.inl (ow hw 28 rfl)) Via.refl e14 F_lastLength_b0 (g := (mkF m 117 #[rv b0, rv sa, iv 0, iv 1] [(.ref b0), (.ref la), (.int 0), (.ref sa)])) rfl rfl (hb hby d3_117)
  refine oS (B := T15.setTop (mkF m 120 #[rv b0, rv sa, iv 0, iv 1] [(.int 0), (.ref la), (.int 0), (.ref sa)])) (fun t k => st15 t k) ?_
  refine oS (B := T15.setTop (mkF m 121 #[rv b0, rv sa, iv 0, iv 1] [(.int 1), (.int 0), (.ref la), (.int 0), (.ref sa)])) (fun t k => XS.iloadN X15.here hx rfl (hb hby d3_120) rfl k) ?_
  obtain ⟨T16, h16, L16, X16, e16, N16q, K16, VC16, st16⟩ := cpA X15 hx hZ hown (ow hw 76 rfl) (ow hw 75 rfl) (ow hw 73 rfl) (ow hw 74 rfl) e15 V_sa V_la (Or.inl ⟨rfl, rfl⟩) (by decide) (by decide) (by decide) (by decide) (by decide) rfl (by rw [hlla]; decide) N0 g_la (g := (mkF m 121 #[rv b0, rv sa, iv 0, iv 1] [(.int 1), (.int 0), (.ref la), (.int 0), (.ref sa)])) rfl (by rw [hml]; rfl) rfl (hb hby d3_121) (by decide) (W := 0) (by show 2 * 0 + _ ≤ _; exact Nat.le_of_eq rfl) (by decide)
  have E_b0 := E_b0.keep K16
  have F_full_b0 := F_full_b0.keep K16 (ninS ne_b0_la nin0)
  have F_last_b0 := F_last_b0.keep K16 (ninS ne_b0_la nin0)
  have F_lastLength_b0 := F_lastLength_b0.keep K16 (ninS ne_b0_la nin0)
  have F_length_b0 := F_length_b0.keep K16 (ninS ne_b0_la nin0)
  have V_sa := V_sa.keep K16 (ninS ne_sa_la nin0)
  have E_em := E_em.keep K16
  have V_em := V_em.keep K16 (ninS (O0.ne BB.2.2.1.lt g_la) nin0)
  have V_de := V_de.keep K16 (ninS (O0.ne BB.2.2.2.2.lt g_la) nin0)
  have E_la := E_la.keep K16
  have Z0 := Nat.le_trans Z0 K16.1
  have O0 := O0.keep K16 (allS g_la all0)
  have K0 := K0.trans K16 (allS (Or.inr sz_la) all0)
  have N0 := N16q
  have V_la := VC16
  refine oS (B := T16.setTop (mkF m 124 #[rv b0, rv sa, iv 0, iv 1] [])) (fun t k => st16 t k) ?_
  refine oS (B := T16.setTop (mkF m 125 #[rv b0, rv sa, iv 0, iv 1] [(.ref b0)])) (fun t k => XS.aloadN X16.here hx rfl (hb hby d3_124) rfl rfl k) ?_
  refine oS (B := T16.setTop (mkF m 126 #[rv b0, rv sa, iv 0, iv 1] [(.ref b0), (.ref b0)])) (fun t k => XS.dup X16.here hx rfl (hb hby d3_125) rfl rfl k) ?_
  obtain ⟨T17, X17, e17, st17⟩ := getF X16 hx hZ hown (host := "") (Or.inl (ow hw 28 rfl)) Via.refl e16 F_lastLength_b0 (g := (mkF m 126 #[rv b0, rv sa, iv 0, iv 1] [(.ref b0), (.ref b0)])) rfl rfl (hb hby d3_126)
  refine oS (B := T17.setTop (mkF m 129 #[rv b0, rv sa, iv 0, iv 1] [(.int 0), (.ref b0)])) (fun t k => st17 t k) ?_
  refine oS (B := T17.setTop (mkF m 130 #[rv b0, rv sa, iv 0, iv 1] [(.int 1), (.int 0), (.ref b0)])) (fun t k => XS.iloadN X17.here hx rfl (hb hby d3_129) rfl k) ?_
  refine oS (B := T17.setTop (mkF m 131 #[rv b0, rv sa, iv 0, iv 1] [(.int 1), (.ref b0)])) (fun t k => XS.iadd X17.here hx rfl (hb hby d3_130) rfl k) ?_
  obtain ⟨T18, h18, X18, e18, W18, st18⟩ := putF X17 hx hZ hown (host := "") (Or.inl (ow hw 28 rfl)) Via.refl e17 F_lastLength_b0 E_b0 (Or.inl (ow hw 29 rfl)) (ow hw 2 rfl) (ty := .int) (by decide) rfl rfl (g := (mkF m 131 #[rv b0, rv sa, iv 0, iv 1] [(.int 1), (.ref b0)])) rfl rfl (hb hby d3_131)
  have E_b0 := E_b0.wr W18
  have F_full_b0 := F_full_b0.other W18 (Or.inr (slot_ne (Or.inl (ow hw 27 rfl)) (Or.inl (ow hw 29 rfl)) (by decide) (t := (.object "java/util/List")) (t' := .int) (by decide) (by decide)))
  have F_last_b0 := F_last_b0.other W18 (Or.inr (slot_ne (Or.inl (ow hw 13 rfl)) (Or.inl (ow hw 29 rfl)) (by decide) (t := (.array .byte)) (t' := .int) (by decide) (by decide)))
  have F_lastLength_b0 := F_lastLength_b0.same W18
  have F_length_b0 := F_length_b0.other W18 (Or.inr (slot_ne (Or.inl (ow hw 20 rfl)) (Or.inl (ow hw 29 rfl)) (by decide) (t := .int) (t' := .int) (by decide) (by decide)))
  have V_sa := V_sa.other W18 (Ne.symm ne_b0_sa)
  have E_em := E_em.wr W18
  have V_em := V_em.other W18 (ne_exa E_em E_b0 (by decide))
  have V_de := V_de.other W18 (O0.ne BB.2.2.2.2.lt g_b0)
  have E_la := E_la.wr W18
  have V_la := V_la.other W18 (Ne.symm ne_b0_la)
  have Z0 := Nat.le_trans Z0 (Keep.of_wr W18).1
  have K0 := K0.wr W18 (Or.inl (List.mem_of_getElem? (i := 0) rfl))
  have N0 := Fr.snoc X18 N0 g_b0
  have O0 := O0.wr W18 g_b0
  refine oS (B := T18.setTop (mkF m 134 #[rv b0, rv sa, iv 0, iv 1] [])) (fun t k => st18 t k) ?_
  refine oS (B := T18.setTop (mkF m 135 #[rv b0, rv sa, iv 0, iv 1] [(.int 0)])) (fun t k => XS.iloadN X18.here hx rfl (hb hby d3_134) rfl k) ?_
  refine oS (B := T18.setTop (mkF m 136 #[rv b0, rv sa, iv 0, iv 1] [(.int 1), (.int 0)])) (fun t k => XS.iloadN X18.here hx rfl (hb hby d3_135) rfl k) ?_
  refine oS (B := T18.setTop (mkF m 137 #[rv b0, rv sa, iv 0, iv 1] [(.int 1)])) (fun t k => XS.iadd X18.here hx rfl (hb hby d3_136) rfl k) ?_
  refine oS (B := T18.setTop (mkF m 138 #[rv b0, rv sa, iv 1, iv 1] [])) (fun t k => XS.istoreN X18.here hx rfl (hb hby d3_137) rfl (l' := #[rv b0, rv sa, iv 1, iv 1]) rfl k) ?_
  refine oS (B := T18.setTop (mkF m 2 #[rv b0, rv sa, iv 1, iv 1] [])) (fun t k => XS.goto X18.here hx rfl (pc0 := 138) (pc' := 2) rfl (hb hby d3_138) (by decide) (by decide) k) ?_
  refine oS (B := T18.setTop (mkF m 3 #[rv b0, rv sa, iv 1, iv 1] [(.int 1)])) (fun t k => XS.iloadN X18.here hx rfl (hb hby d3_2) rfl k) ?_
  refine oS (B := T18.setTop (mkF m 4 #[rv b0, rv sa, iv 1, iv 1] [(.ref sa), (.int 1)])) (fun t k => XS.aloadN X18.here hx rfl (hb hby d3_3) rfl rfl k) ?_
  have Vo_19 := V_sa
  obtain ⟨cl_19, Ar_19, q_19, S_19, M_19, H_19, G_19⟩ := Vo_19
  refine oS (B := T18.setTop (mkF m 5 #[rv b0, rv sa, iv 1, iv 1] [(.int 1), (.int 1)])) (fun t k => X18.arraylength hx (by rw [e18]; exact Ar_19.1) (State.isArrayOf_alike hZ.alike Ar_19.2.1) (g := (mkF m 4 #[rv b0, rv sa, iv 1, iv 1] [(.ref sa), (.int 1)])) rfl rfl (hb hby d3_4) t (by rw [len_of S_19 M_19]; exact k)) ?_
  refine oS (B := T18.setTop (mkF m 141 #[rv b0, rv sa, iv 1, iv 1] [])) (fun t k => XS.icmpYes X18.here hx rfl (pc0 := 5) (pc' := 141) rfl (hb hby d3_5) rfl (flt (by decide)).2.1 (by decide) (by decide) k) ?_
  refine oS (B := T18.setTop (mkF m 142 #[rv b0, rv sa, iv 1, iv 1] [(.ref b0)])) (fun t k => XS.aloadN X18.here hx rfl (hb hby d3_141) rfl rfl k) ?_
  refine oS (B := T18.setTop (mkF m 143 #[rv b0, rv sa, iv 1, iv 1] [(.ref b0), (.ref b0)])) (fun t k => XS.dup X18.here hx rfl (hb hby d3_142) rfl rfl k) ?_
  obtain ⟨T20, X20, e20, st20⟩ := getF X18 hx hZ hown (host := "") (Or.inl (ow hw 19 rfl)) Via.refl e18 F_length_b0 (g := (mkF m 143 #[rv b0, rv sa, iv 1, iv 1] [(.ref b0), (.ref b0)])) rfl rfl (hb hby d3_143)
  refine oS (B := T20.setTop (mkF m 146 #[rv b0, rv sa, iv 1, iv 1] [(.int 0), (.ref b0)])) (fun t k => st20 t k) ?_
  refine oS (B := T20.setTop (mkF m 147 #[rv b0, rv sa, iv 1, iv 1] [(.ref sa), (.int 0), (.ref b0)])) (fun t k => XS.aloadN X20.here hx rfl (hb hby d3_146) rfl rfl k) ?_
  have Vo_21 := V_sa
  obtain ⟨cl_21, Ar_21, q_21, S_21, M_21, H_21, G_21⟩ := Vo_21
  refine oS (B := T20.setTop (mkF m 148 #[rv b0, rv sa, iv 1, iv 1] [(.int 1), (.int 0), (.ref b0)])) (fun t k => X20.arraylength hx (by rw [e20]; exact Ar_21.1) (State.isArrayOf_alike hZ.alike Ar_21.2.1) (g := (mkF m 147 #[rv b0, rv sa, iv 1, iv 1] [(.ref sa), (.int 0), (.ref b0)])) rfl rfl (hb hby d3_147) t (by rw [len_of S_21 M_21]; exact k)) ?_
  refine oS (B := T20.setTop (mkF m 149 #[rv b0, rv sa, iv 1, iv 1] [(.int 1), (.ref b0)])) (fun t k => XS.iadd X20.here hx rfl (hb hby d3_148) rfl k) ?_
  obtain ⟨T22, h22, X22, e22, W22, st22⟩ := putF X20 hx hZ hown (host := "") (Or.inl (ow hw 19 rfl)) Via.refl e20 F_length_b0 E_b0 (Or.inl (ow hw 20 rfl)) (ow hw 2 rfl) (ty := .int) (by decide) rfl rfl (g := (mkF m 149 #[rv b0, rv sa, iv 1, iv 1] [(.int 1), (.ref b0)])) rfl rfl (hb hby d3_149)
  have E_b0 := E_b0.wr W22
  have F_full_b0 := F_full_b0.other W22 (Or.inr (slot_ne (Or.inl (ow hw 27 rfl)) (Or.inl (ow hw 20 rfl)) (by decide) (t := (.object "java/util/List")) (t' := .int) (by decide) (by decide)))
  have F_last_b0 := F_last_b0.other W22 (Or.inr (slot_ne (Or.inl (ow hw 13 rfl)) (Or.inl (ow hw 20 rfl)) (by decide) (t := (.array .byte)) (t' := .int) (by decide) (by decide)))
  have F_lastLength_b0 := F_lastLength_b0.other W22 (Or.inr (slot_ne (Or.inl (ow hw 29 rfl)) (Or.inl (ow hw 20 rfl)) (by decide) (t := .int) (t' := .int) (by decide) (by decide)))
  have F_length_b0 := F_length_b0.same W22
  have V_sa := V_sa.other W22 (Ne.symm ne_b0_sa)
  have E_em := E_em.wr W22
  have V_em := V_em.other W22 (ne_exa E_em E_b0 (by decide))
  have V_de := V_de.other W22 (O0.ne BB.2.2.2.2.lt g_b0)
  have E_la := E_la.wr W22
  have V_la := V_la.other W22 (Ne.symm ne_b0_la)
  have Z0 := Nat.le_trans Z0 (Keep.of_wr W22).1
  have K0 := K0.wr W22 (Or.inl (List.mem_of_getElem? (i := 0) rfl))
  have N0 := Fr.snoc X22 N0 g_b0
  have O0 := O0.wr W22 g_b0
  refine oS (B := T22.setTop (mkF m 152 #[rv b0, rv sa, iv 1, iv 1] [])) (fun t k => st22 t k) ?_
  exact own_retV X22 hx hlk Bd.returns (hb hby d3_152) (by decide) (by decide) (by rw [e22]; exact ⟨_, _, _, _, rfl, N0, K0, F_full_b0, F_last_b0, F_lastLength_b0, F_length_b0⟩)
theorem ef_rma_2 (m : MethodId) (x0 : Addr) (x1 : Addr) : entryFrame m #[(.ref x0), (.ref x1)] 4 = mkF m 0 #[rv x0, rv x1, .unset, .unset] [] := by first | (simp [entryFrame, mkF, argsToLocals, Value.category]; done) | rfl
def QQ_rma_2 (Z : State) (b0 : Addr) (sa : Addr) (em : Addr) (ke : ClassId) (de : Addr) (kd : ClassId) (ks : ClassId) (vs : List Value) (h0 : Heap) (n0 : Nat) (v : Option Value) (h : Heap) (L : List Loc) : Prop := ∃ vf vl vll vlen : Value, v = none ∧ Fr n0 L ∧ Keep h0 h [b0] ∧ Fld Z h b0 "com/example/loomwire/loomwire/transport/MessageBuffer" "full" "Ljava/util/List;" vf ∧ Fld Z h b0 "com/example/loomwire/loomwire/transport/MessageBuffer" "last" "[B" vl ∧ Fld Z h b0 "com/example/loomwire/loomwire/transport/MessageBuffer" "lastLength" "I" vll ∧ Fld Z h b0 "com/example/loomwire/loomwire/transport/MessageBuffer" "length" "I" vlen
set_option maxRecDepth 65536 in
set_option maxHeartbeats 40000000 in
theorem rma_2 (l : Launch) (Z : State) (a0 : Array Value) (hw : ∀ d ∈ tables_1, d.before a0 Z = true) (ws : List Jvm.Cond) (b0 : Addr) (sa : Addr) (em : Addr) (ke : ClassId) (de : Addr) (kd : ClassId) (ks : ClassId) (vs : List Value) (h0 : Heap) (n0 : Nat) (Z0 : n0 ≤ h0.size) (E_b0 : Exa Z h0 b0 "com/example/loomwire/loomwire/transport/MessageBuffer") (g_b0 : n0 ≤ b0) (F_full_b0 : Fld Z h0 b0 "com/example/loomwire/loomwire/transport/MessageBuffer" "full" "Ljava/util/List;" .null) (F_last_b0 : Fld Z h0 b0 "com/example/loomwire/loomwire/transport/MessageBuffer" "last" "[B" (.ref em)) (F_lastLength_b0 : Fld Z h0 b0 "com/example/loomwire/loomwire/transport/MessageBuffer" "lastLength" "I" (.int 0)) (F_length_b0 : Fld Z h0 b0 "com/example/loomwire/loomwire/transport/MessageBuffer" "length" "I" (.int 0)) (BB : own_Base Z em ke de kd) (O0 : Old Z n0 h0) (ne_b0_sa : b0 ≠ sa) (V_sa : Arv Z h0 sa ks .byte (2 : Int32) vs (.int 0)) :
    MetFree l (⟨"com/example/loomwire/loomwire/transport/MessageBuffer", "append", "([B)V"⟩ : MethodName) (head1 (Jvm.Cond.code (⟨"com/example/loomwire/loomwire/transport/MessageBuffer", "append", "([B)V"⟩ : MethodName) prog_102_method_4_code 4 none :: ws) ({ frames := 5, cells := 4, slots := 65551, locals := 80 } : Room)) (fun a U => a = #[(.ref b0), (.ref sa)] ∧ Z.Warmed39 U.vm ∧ U.heap = h0) (fun _ _ _ _ _ => True) (fun _ U o U' => ∃ v L, o = .returned v ∧ (QQ_rma_2 Z b0 sa em ke de kd ks vs h0 n0) v U'.heap L ∧ FrameEnd U o U' L ({ frames := 5, cells := 4, slots := 65551, locals := 80 } : Room).cells ({ frames := 5, cells := 4, slots := 65551, locals := 80 } : Room).slots) := by
  refine MetFree.of_bodySF (plainFor_of_name pn_com_example_loomwire_loomwire_transport_MessageBuffer) hisR ?_
  intro p e s m args below meth c s₁ Bd hml0 hP hK
  obtain ⟨rfl, hZ, hh⟩ := hP
  have hx := Bd.exec
  have hby := Bd.bytes
  have hlk : meth.locks = false := BodyLoose.notSynchronized Bd
  have hml : c.maxLocals = 4 := hml0
  have hown : s.vm.findClass "com/example/loomwire/loomwire/transport/MessageBuffer" = some m.cls := findClass_of_methodNamed Bd.named
  have hnm := (name_of_methodNamed Bd.named Bd.method).1
  have X0 : Stand p l e ({ frames := 5, cells := 4, slots := 65551, locals := 80 } : Room) s m #[(.ref b0), (.ref sa)] below meth c s₁ [] 0 0 := Stand.of_body Bd
  have e0 : s₁.heap = h0 := by rw [← hh, Bd.state]; rfl
  have N0 := Fr.nil n0
  show own_G p.tables e below s (QQ_rma_2 Z b0 sa em ke de kd ks vs h0 n0) ({ frames := 5, cells := 4, slots := 65551, locals := 80 } : Room).cells ({ frames := 5, cells := 4, slots := 65551, locals := 80 } : Room).slots (s₁.setTop (entryFrame m #[(.ref b0), (.ref sa)] 4))
  refine oS (B := s₁.setTop (mkF m 0 #[rv b0, rv sa, .unset, .unset] [])) (fun t k => castTop (ef_rma_2 m b0 sa) k) ?_
  have V_em := BB.2.2.1.ext O0.2
  have E_em := BB.2.1.ext O0.2
  have V_de := BB.2.2.2.2.ext O0.2
  have K0 := Keep.refl h0 [b0]
  refine oS (B := s₁.setTop (mkF m 1 #[rv b0, rv sa, .unset, .unset] [(.int 0)])) (fun t k => XS.iconst X0.here hx rfl (hb hby d3_0) k) ?_
  refine oS (B := s₁.setTop (mkF m 2 #[rv b0, rv sa, iv 0, .unset] [])) (fun t k => XS.istoreN X0.here hx rfl (hb hby d3_1) rfl (l' := #[rv b0, rv sa, iv 0, .unset]) rfl k) ?_
  refine oS (B := s₁.setTop (mkF m 3 #[rv b0, rv sa, iv 0, .unset] [(.int 0)])) (fun t k => XS.iloadN X0.here hx rfl (hb hby d3_2) rfl k) ?_
  refine oS (B := s₁.setTop (mkF m 4 #[rv b0, rv sa, iv 0, .unset] [(.ref sa), (.int 0)])) (fun t k => XS.aloadN X0.here hx rfl (hb hby d3_3) rfl rfl k) ?_
  have Vo_1 := V_sa
  obtain ⟨cl_1, Ar_1, q_1, S_1, M_1, H_1, G_1⟩ := Vo_1
  refine oS (B := s₁.setTop (mkF m 5 #[rv b0, rv sa, iv 0, .unset] [(.int 2), (.int 0)])) (fun t k => X0.arraylength hx (by rw [e0]; exact Ar_1.1) (State.isArrayOf_alike hZ.alike Ar_1.2.1) (g := (mkF m 4 #[rv b0, rv sa, iv 0, .unset] [(.ref sa), (.int 0)])) rfl rfl (hb hby d3_4) t (by rw [len_of S_1 M_1]; exact k)) ?_
  refine oS (B := s₁.setTop (mkF m 8 #[rv b0, rv sa, iv 0, .unset] [])) (fun t k => XS.icmpNo X0.here hx rfl (hb hby d3_5) rfl (tlt (by decide)).2.1 k) ?_
  refine oS (B := s₁.setTop (mkF m 9 #[rv b0, rv sa, iv 0, .unset] [(.ref b0)])) (fun t k => XS.aloadN X0.here hx rfl (hb hby d3_8) rfl rfl k) ?_
  obtain ⟨T2, X2, e2, st2⟩ := getF X0 hx hZ hown (host := "") (Or.inl (ow hw 28 rfl)) Via.refl e0 F_lastLength_b0 (g := (mkF m 9 #[rv b0, rv sa, iv 0, .unset] [(.ref b0)])) rfl rfl (hb hby d3_9)
  refine oS (B := T2.setTop (mkF m 12 #[rv b0, rv sa, iv 0, .unset] [(.int 0)])) (fun t k => st2 t k) ?_
  refine oS (B := T2.setTop (mkF m 14 #[rv b0, rv sa, iv 0, .unset] [(.int 65536), (.int 0)])) (fun t k => X2.ldcInt hx hown (mvT hZ (ow hw 54 rfl)) (g := (mkF m 12 #[rv b0, rv sa, iv 0, .unset] [(.int 0)])) rfl (hb hby d3_12) t k) ?_
  refine oS (B := T2.setTop (mkF m 61 #[rv b0, rv sa, iv 0, .unset] [])) (fun t k => XS.icmpYes X2.here hx rfl (pc0 := 14) (pc' := 61) rfl (hb hby d3_14) rfl (feq (by decide)).2 (by decide) (by decide) k) ?_
  refine oS (B := T2.setTop (mkF m 62 #[rv b0, rv sa, iv 0, .unset] [(.ref sa)])) (fun t k => XS.aloadN X2.here hx rfl (hb hby d3_61) rfl rfl k) ?_
  have Vo_3 := V_sa
  obtain ⟨cl_3, Ar_3, q_3, S_3, M_3, H_3, G_3⟩ := Vo_3
  refine oS (B := T2.setTop (mkF m 63 #[rv b0, rv sa, iv 0, .unset] [(.int 2)])) (fun t k => X2.arraylength hx (by rw [e2]; exact Ar_3.1) (State.isArrayOf_alike hZ.alike Ar_3.2.1) (g := (mkF m 62 #[rv b0, rv sa, iv 0, .unset] [(.ref sa)])) rfl rfl (hb hby d3_62) t (by rw [len_of S_3 M_3]; exact k)) ?_
  refine oS (B := T2.setTop (mkF m 64 #[rv b0, rv sa, iv 0, .unset] [(.int 0), (.int 2)])) (fun t k => XS.iloadN X2.here hx rfl (hb hby d3_63) rfl k) ?_
  refine oS (B := T2.setTop (mkF m 65 #[rv b0, rv sa, iv 0, .unset] [(.int 2)])) (fun t k => XS.isub X2.here hx rfl (hb hby d3_64) rfl k) ?_
  refine oS (B := T2.setTop (mkF m 67 #[rv b0, rv sa, iv 0, .unset] [(.int 65536), (.int 2)])) (fun t k => X2.ldcInt hx hown (mvT hZ (ow hw 54 rfl)) (g := (mkF m 65 #[rv b0, rv sa, iv 0, .unset] [(.int 2)])) rfl (hb hby d3_65) t k) ?_
  refine oS (B := T2.setTop (mkF m 68 #[rv b0, rv sa, iv 0, .unset] [(.ref b0), (.int 65536), (.int 2)])) (fun t k => XS.aloadN X2.here hx rfl (hb hby d3_67) rfl rfl k) ?_
  obtain ⟨T4, X4, e4, st4⟩ := getF X2 hx hZ hown (host := "") (Or.inl (ow hw 28 rfl)) Via.refl e2 F_lastLength_b0 (g := (mkF m 68 #[rv b0, rv sa, iv 0, .unset] [(.ref b0), (.int 65536), (.int 2)])) rfl rfl (hb hby d3_68)
  refine oS (B := T4.setTop (mkF m 71 #[rv b0, rv sa, iv 0, .unset] [(.int 0), (.int 65536), (.int 2)])) (fun t k => st4 t k) ?_
  refine oS (B := T4.setTop (mkF m 72 #[rv b0, rv sa, iv 0, .unset] [(.int 65536), (.int 2)])) (fun t k => XS.isub X4.here hx rfl (hb hby d3_71) rfl k) ?_
  obtain ⟨_, _, ⟨T5, L5, k5, n5⟩, -, X5, ⟨Lc5, hQ5, l5, y5, z5⟩, st5⟩ := Jvm.LawKit.callS X4 hx (y := (⟨"java/lang/Math", "min", "(II)I"⟩ : MethodName)) hown (mvT hZ (ow hw 55 rfl)) (mvT hZ (ow hw 56 rfl)) (mvT hZ (ow hw 57 rfl)) (mvT hZ (ow hw 58 rfl)) (by decide) (backOf (W := 0) (rm8 l Z a0 hw [] (2 : Int32) (65536 : Int32)  h0 n0 Z0 ) hZ (ow hw 58 rfl) (ow hw 57 rfl) (by decide) (by decide)) (g := (mkF m 72 #[rv b0, rv sa, iv 0, .unset] [(.int 65536), (.int 2)])) rfl (by rw [hml]; rfl) (argsL := [(.int 2), (.int 65536)]) (rest := []) (lenOf pd_1 rfl) rfl (by show 2 * 0 + _ ≤ _; exact Nat.le_of_eq rfl) (hb hby d3_72) (fun _ _ => ⟨rfl, e4, (by decide : 0 + 0 ≤ _), (by decide : 0 + 0 ≤ _)⟩)
  dsimp only [Pt.U, Pt.locs, Pt.cells, Pt.slots] at X5 l5 y5 z5 st5 hQ5
  subst l5 y5 z5
  obtain ⟨rfl, N5q, e5⟩ := hQ5
  have N0 := Fr.app N0 N5q
  refine oS (B := T5.setTop (mkF m 75 #[rv b0, rv sa, iv 0, .unset] [(.int (own_min (2 : Int32) (65536 : Int32)))])) (fun t k => st5 t k) ?_
  have hlit5 : (own_min (2 : Int32) (65536 : Int32)) = (2 : Int32) := by decide
  rw [hlit5]
  refine oS (B := T5.setTop (mkF m 76 #[rv b0, rv sa, iv 0, iv 2] [])) (fun t k => XS.istoreN X5.here hx rfl (hb hby d3_75) rfl (l' := #[rv b0, rv sa, iv 0, iv 2]) rfl k) ?_
  refine oS (B := T5.setTop (mkF m 77 #[rv b0, rv sa, iv 0, iv 2] [(.ref b0)])) (fun t k => XS.aloadN X5.here hx rfl (hb hby d3_76) rfl rfl k) ?_
  obtain ⟨T6, X6, e6, st6⟩ := getF X5 hx hZ hown (host := "") (Or.inl (ow hw 28 rfl)) Via.refl e5 F_lastLength_b0 (g := (mkF m 77 #[rv b0, rv sa, iv 0, iv 2] [(.ref b0)])) rfl rfl (hb hby d3_77)
  refine oS (B := T6.setTop (mkF m 80 #[rv b0, rv sa, iv 0, iv 2] [(.int 0)])) (fun t k => st6 t k) ?_
  refine oS (B := T6.setTop (mkF m 81 #[rv b0, rv sa, iv 0, iv 2] [(.int 2), (.int 0)])) (fun t k => XS.iloadN X6.here hx rfl (hb hby d3_80) rfl k) ?_
  refine oS (B := T6.setTop (mkF m 82 #[rv b0, rv sa, iv 0, iv 2] [(.int 2)])) (fun t k => XS.iadd X6.here hx rfl (hb hby d3_81) rfl k) ?_
  refine oS (B := T6.setTop (mkF m 83 #[rv b0, rv sa, iv 0, iv 2] [(.ref b0), (.int 2)])) (fun t k => XS.aloadN X6.here hx rfl (hb hby d3_82) rfl rfl k) ?_
  obtain ⟨T7, X7, e7, st7⟩ := getF X6 hx hZ hown (host := "") (Or.inl (ow hw 12 rfl)) Via.refl e6 F_last_b0 (g := (mkF m 83 #[rv b0, rv sa, iv 0, iv 2] [(.ref b0), (.int 2)])) rfl rfl (hb hby d3_83)
  refine oS (B := T7.setTop (mkF m 86 #[rv b0, rv sa, iv 0, iv 2] [(.ref em), (.int 2)])) (fun t k => st7 t k) ?_
  have Vo_8 := V_em
  obtain ⟨cl_8, Ar_8, q_8, S_8, M_8, H_8, G_8⟩ := Vo_8
  refine oS (B := T7.setTop (mkF m 87 #[rv b0, rv sa, iv 0, iv 2] [(.int 0), (.int 2)])) (fun t k => X7.arraylength hx (by rw [e7]; exact Ar_8.1) (State.isArrayOf_alike hZ.alike Ar_8.2.1) (g := (mkF m 86 #[rv b0, rv sa, iv 0, iv 2] [(.ref em), (.int 2)])) rfl rfl (hb hby d3_86) t (by rw [len_of S_8 M_8]; exact k)) ?_
  refine oS (B := T7.setTop (mkF m 90 #[rv b0, rv sa, iv 0, iv 2] [])) (fun t k => XS.icmpNo X7.here hx rfl (hb hby d3_87) rfl (tlt (by decide)).2.2.2 k) ?_
  refine oS (B := T7.setTop (mkF m 91 #[rv b0, rv sa, iv 0, iv 2] [(.ref b0)])) (fun t k => XS.aloadN X7.here hx rfl (hb hby d3_90) rfl rfl k) ?_
  refine oS (B := T7.setTop (mkF m 92 #[rv b0, rv sa, iv 0, iv 2] [(.ref b0), (.ref b0)])) (fun t k => XS.aloadN X7.here hx rfl (hb hby d3_91) rfl rfl k) ?_
  obtain ⟨T9, X9, e9, st9⟩ := getF X7 hx hZ hown (host := "") (Or.inl (ow hw 12 rfl)) Via.refl e7 F_last_b0 (g := (mkF m 92 #[rv b0, rv sa, iv 0, iv 2] [(.ref b0), (.ref b0)])) rfl rfl (hb hby d3_92)
  refine oS (B := T9.setTop (mkF m 95 #[rv b0, rv sa, iv 0, iv 2] [(.ref em), (.ref b0)])) (fun t k => st9 t k) ?_
  refine oS (B := T9.setTop (mkF m 96 #[rv b0, rv sa, iv 0, iv 2] [(.ref b0), (.ref em), (.ref b0)])) (fun t k => XS.aloadN X9.here hx rfl (hb hby d3_95) rfl rfl k) ?_
  obtain ⟨T10, X10, e10, st10⟩ := getF X9 hx hZ hown (host := "") (Or.inl (ow hw 28 rfl)) Via.refl e9 F_lastLength_b0 (g := (mkF m 96 #[rv b0, rv sa, iv 0, iv 2] [(.ref b0), (.ref em), (.ref b0)])) rfl rfl (hb hby d3_96)
  refine oS (B := T10.setTop (mkF m 99 #[rv b0, rv sa, iv 0, iv 2] [(.int 0), (.ref em), (.ref b0)])) (fun t k => st10 t k) ?_
  refine oS (B := T10.setTop (mkF m 100 #[rv b0, rv sa, iv 0, iv 2] [(.int 2), (.int 0), (.ref em), (.ref b0)])) (fun t k => XS.iloadN X10.here hx rfl (hb hby d3_99) rfl k) ?_
  refine oS (B := T10.setTop (mkF m 101 #[rv b0, rv sa, iv 0, iv 2] [(.int 2), (.ref em), (.ref b0)])) (fun t k => XS.iadd X10.here hx rfl (hb hby d3_100) rfl k) ?_
  obtain ⟨_, _, ⟨T11, L11, k11, n11⟩, -, X11, ⟨Lc11, hQ11, l11, y11, z11⟩, st11⟩ := Jvm.LawKit.callS X10 hx (y := (⟨"com/example/loomwire/loomwire/transport/MessageBuffer", "chunkCapacity", "(I)I"⟩ : MethodName)) hown (mvT hZ (ow hw 59 rfl)) (mvT hZ (ow hw 60 rfl)) (mvT hZ (ow hw 3 rfl)) (mvT hZ (ow hw 61 rfl)) (by decide) (backOf (W := 2) (rm9_2 l Z a0 hw []   h0 n0 Z0 ) hZ (ow hw 61 rfl) (ow hw 3 rfl) (by decide) (by decide)) (g := (mkF m 101 #[rv b0, rv sa, iv 0, iv 2] [(.int 2), (.ref em), (.ref b0)])) rfl (by rw [hml]; rfl) (argsL := [(.int 2)]) (rest := [(.ref em), (.ref b0)]) (lenOf pd_0 rfl) rfl (by show 2 * 0 + _ ≤ _; exact Nat.le_of_eq rfl) (hb hby d3_101) (fun _ _ => ⟨rfl, e10, (by decide : 0 + 0 ≤ _), (by decide : 0 + 0 ≤ _)⟩)
  dsimp only [Pt.U, Pt.locs, Pt.cells, Pt.slots] at X11 l11 y11 z11 st11 hQ11
  subst l11 y11 z11
  obtain ⟨rfl, N11q, e11⟩ := hQ11
  have N0 := Fr.app N0 N11q
  refine oS (B := T11.setTop (mkF m 104 #[rv b0, rv sa, iv 0, iv 2] [(.int 2), (.ref em), (.ref b0)])) (fun t k => st11 t k) ?_
  have lt_b0 := E_b0.lt
  have lt_sa := V_sa.lt
  have KZ := K0
  obtain ⟨_, _, ⟨T12, L12, k12, n12⟩, -, X12, ⟨Lc12, hQ12, l12, y12, z12⟩, st12⟩ := Jvm.LawKit.callS X11 hx (y := (⟨"java/util/Arrays", "copyOf", "([BI)[B"⟩ : MethodName)) hown (mvT hZ (ow hw 40 rfl)) (mvT hZ (ow hw 41 rfl)) (mvT hZ (ow hw 42 rfl)) (mvT hZ (ow hw 43 rfl)) (by decide) (backOf (W := 1) (rmg_2 l Z a0 hw []  em ke de kd h0 n0 Z0 BB O0) hZ (ow hw 43 rfl) (ow hw 42 rfl) (by decide) (by decide)) (g := (mkF m 104 #[rv b0, rv sa, iv 0, iv 2] [(.int 2), (.ref em), (.ref b0)])) rfl (by rw [hml]; rfl) (argsL := [(.ref em), (.int 2)]) (rest := [(.ref b0)]) (lenOf pd_6 rfl) rfl (by show 2 * 0 + _ ≤ _; exact Nat.le_of_eq rfl) (hb hby d3_104) (fun _ _ => ⟨rfl, e11, (by decide : 0 + 1 ≤ _), (by decide : 0 + 2 ≤ _)⟩)
  dsimp only [Pt.U, Pt.locs, Pt.cells, Pt.slots] at X12 l12 y12 z12 st12 hQ12
  subst l12 y12 z12
  obtain ⟨la, kla, vla, rfl, N12q, K12, g_la, sz'_la, E_la, V_la, hlla⟩ := hQ12
  have N0 := Fr.app N0 N12q
  have E_b0 := E_b0.keep K12
  have F_full_b0 := F_full_b0.keep K12 nin0
  have F_last_b0 := F_last_b0.keep K12 nin0
  have F_lastLength_b0 := F_lastLength_b0.keep K12 nin0
  have F_length_b0 := F_length_b0.keep K12 nin0
  have V_sa := V_sa.keep K12 nin0
  have E_em := E_em.keep K12
  have V_em := V_em.keep K12 nin0
  have V_de := V_de.keep K12 nin0
  have Z0 := Nat.le_trans Z0 K12.1
  have O0 := O0.keep K12 all0
  have K0 := K0.trans K12 all0
  have ne_b0_la : b0 ≠ la := Nat.ne_of_lt (Nat.lt_of_lt_of_le lt_b0 sz'_la)
  have ne_sa_la : sa ≠ la := Nat.ne_of_lt (Nat.lt_of_lt_of_le lt_sa sz'_la)
  have sz_la : h0.size ≤ la := Nat.le_trans KZ.1 sz'_la
  refine oS (B := T12.setTop (mkF m 107 #[rv b0, rv sa, iv 0, iv 2] [(.ref la), (.ref b0)])) (fun t k => st12 t k) ?_
  obtain ⟨T13, h13, X13, e13, W13, st13⟩ := putF X12 hx hZ hown (host := "") (Or.inl (ow hw 12 rfl)) Via.refl rfl F_last_b0 E_b0 (Or.inl (ow hw 13 rfl)) (ow hw 2 rfl) (ty := (.array .byte)) (by decide) rfl rfl (g := (mkF m 107 #[rv b0, rv sa, iv 0, iv 2] [(.ref la), (.ref b0)])) rfl rfl (hb hby d3_107)
  have E_b0 := E_b0.wr W13
  have F_full_b0 := F_full_b0.other W13 (Or.inr (slot_ne (Or.inl (ow hw 27 rfl)) (Or.inl (ow hw 13 rfl)) (by decide) (t := (.object "java/util/List")) (t' := (.array .byte)) (by decide) (by decide)))
  have F_last_b0 := F_last_b0.same W13
  have F_lastLength_b0 := F_lastLength_b0.other W13 (Or.inr (slot_ne (Or.inl (ow hw 29 rfl)) (Or.inl (ow hw 13 rfl)) (by decide) (t := .int) (t' := (.array .byte)) (by decide) (by decide)))
  have F_length_b0 := F_length_b0.other W13 (Or.inr (slot_ne (Or.inl (ow hw 20 rfl)) (Or.inl (ow hw 13 rfl)) (by decide) (t := .int) (t' := (.array .byte)) (by decide) (by decide)))
  have V_sa := V_sa.other W13 (Ne.symm ne_b0_sa)
  have E_em := E_em.wr W13
  have V_em := V_em.other W13 (ne_exa E_em E_b0 (by decide))
  have V_de := V_de.other W13 (O0.ne BB.2.2.2.2.lt g_b0)
  have E_la := E_la.wr W13
  have V_la := V_la.other W13 (Ne.symm ne_b0_la)
  have Z0 := Nat.le_trans Z0 (Keep.of_wr W13).1
  have K0 := K0.wr W13 (Or.inl (List.mem_of_getElem? (i := 0) rfl))
  have N0 := Fr.snoc X13 N0 g_b0
  have O0 := O0.wr W13 g_b0
  refine oS (B := T13.setTop (mkF m 110 #[rv b0, rv sa, iv 0, iv 2] [])) (fun t k => st13 t k) ?_
  refine oS (B := T13.setTop (mkF m 111 #[rv b0, rv sa, iv 0, iv 2] [(.ref sa)])) (fun t k => XS.aloadN X13.here hx rfl (hb hby d3_110) rfl rfl k) ?_
  refine oS (B := T13.setTop (mkF m 112 #[rv b0, rv sa, iv 0, iv 2] [(.int 0), (.ref sa)])) (fun t k => XS.iloadN X13.here hx rfl (hb hby d3_111) rfl k) ?_
  refine oS (B := T13.setTop (mkF m 113 #[rv b0, rv sa, iv 0, iv 2] [(.ref b0), (.int 0), (.ref sa)])) (fun t k => XS.aloadN X13.here hx rfl (hb hby d3_112) rfl rfl k) ?_
  obtain ⟨T14, X14, e14, st14⟩ := getF X13 hx hZ hown (host := "") (Or.inl (ow hw 12 rfl)) Via.refl e13 F_last_b0 (g := (mkF m 113 #[rv b0, rv sa, iv 0, iv 2] [(.ref b0), (.int 0), (.ref sa)])) rfl rfl (hb hby d3_113)
  refine oS (B := T14.setTop (mkF m 116 #[rv b0, rv sa, iv 0, iv 2] [(.ref la), (.int 0), (.ref sa)])) (fun t k => st14 t k) ?_
  refine oS (B := T14.setTop (mkF m 117 #[rv b0, rv sa, iv 0, iv 2] [(.ref b0), (.ref la), (.int 0), (.ref sa)])) (fun t k => XS.aloadN X14.here hx rfl (hb hby d3_116) rfl rfl k) ?_
  obtain ⟨T15, X15, e15, st15⟩ := getF X14 hx hZ hown (host := "") (Or.inl (ow hw 28 rfl)) Via.refl e14 F_lastLength_b0 (g := (mkF m 117 #[rv b0, rv sa, iv 0, iv 2] [(.ref b0), (.ref la), (.int 0), (.ref sa)])) rfl rfl (hb hby d3_117)
  refine oS (B := T15.setTop (mkF m 120 #[rv b0, rv sa, iv 0, iv 2] [(.int 0), (.ref la), (.int 0), (.ref sa)])) (fun t k => st15 t k) ?_
  refine oS (B := T15.setTop (mkF m 121 #[rv b0, rv sa, iv 0, iv 2] [(.int 2), (.int 0), (.ref la), (.int 0), (.ref sa)])) (fun t k => XS.iloadN X15.here hx rfl (hb hby d3_120) rfl k) ?_
  obtain ⟨T16, h16, L16, X16, e16, N16q, K16, VC16, st16⟩ := cpA X15 hx hZ hown (ow hw 76 rfl) (ow hw 75 rfl) (ow hw 73 rfl) (ow hw 74 rfl) e15 V_sa V_la (Or.inl ⟨rfl, rfl⟩) (by decide) (by decide) (by decide) (by decide) (by decide) rfl (by rw [hlla]; decide) N0 g_la (g := (mkF m 121 #[rv b0, rv sa, iv 0, iv 2] [(.int 2), (.int 0), (.ref la), (.int 0), (.ref sa)])) rfl (by rw [hml]; rfl) rfl (hb hby d3_121) (by decide) (W := 0) (by show 2 * 0 + _ ≤ _; exact Nat.le_of_eq rfl) (by decide)
  have E_b0 := E_b0.keep K16
  have F_full_b0 := F_full_b0.keep K16 (ninS ne_b0_la nin0)
  have F_last_b0 := F_last_b0.keep K16 (ninS ne_b0_la nin0)
  have F_lastLength_b0 := F_lastLength_b0.keep K16 (ninS ne_b0_la nin0)
  have F_length_b0 := F_length_b0.keep K16 (ninS ne_b0_la nin0)
  have V_sa := V_sa.keep K16 (ninS ne_sa_la nin0)
  have E_em := E_em.keep K16
  have V_em := V_em.keep K16 (ninS (O0.ne BB.2.2.1.lt g_la) nin0)
  have V_de := V_de.keep K16 (ninS (O0.ne BB.2.2.2.2.lt g_la) nin0)
  have E_la := E_la.keep K16
  have Z0 := Nat.le_trans Z0 K16.1
  have O0 := O0.keep K16 (allS g_la all0)
  have K0 := K0.trans K16 (allS (Or.inr sz_la) all0)
  have N0 := N16q
  have V_la := VC16
  refine oS (B := T16.setTop (mkF m 124 #[rv b0, rv sa, iv 0, iv 2] [])) (fun t k => st16 t k) ?_
  refine oS (B := T16.setTop (mkF m 125 #[rv b0, rv sa, iv 0, iv 2] [(.ref b0)])) (fun t k => XS.aloadN X16.here hx rfl (hb hby d3_124) rfl rfl k) ?_
  refine oS (B := T16.setTop (mkF m 126 #[rv b0, rv sa, iv 0, iv 2] [(.ref b0), (.ref b0)])) (fun t k => XS.dup X16.here hx rfl (hb hby d3_125) rfl rfl k) ?_
  obtain ⟨T17, X17, e17, st17⟩ := getF X16 hx hZ hown (host := "") (Or.inl (ow hw 28 rfl)) Via.refl e16 F_lastLength_b0 (g := (mkF m 126 #[rv b0, rv sa, iv 0, iv 2] [(.ref b0), (.ref b0)])) rfl rfl (hb hby d3_126)
  refine oS (B := T17.setTop (mkF m 129 #[rv b0, rv sa, iv 0, iv 2] [(.int 0), (.ref b0)])) (fun t k => st17 t k) ?_
  refine oS (B := T17.setTop (mkF m 130 #[rv b0, rv sa, iv 0, iv 2] [(.int 2), (.int 0), (.ref b0)])) (fun t k => XS.iloadN X17.here hx rfl (hb hby d3_129) rfl k) ?_
  refine oS (B := T17.setTop (mkF m 131 #[rv b0, rv sa, iv 0, iv 2] [(.int 2), (.ref b0)])) (fun t k => XS.iadd X17.here hx rfl (hb hby d3_130) rfl k) ?_
  obtain ⟨T18, h18, X18, e18, W18, st18⟩ := putF X17 hx hZ hown (host := "") (Or.inl (ow hw 28 rfl)) Via.refl e17 F_lastLength_b0 E_b0 (Or.inl (ow hw 29 rfl)) (ow hw 2 rfl) (ty := .int) (by decide) rfl rfl (g := (mkF m 131 #[rv b0, rv sa, iv 0, iv 2] [(.int 2), (.ref b0)])) rfl rfl (hb hby d3_131)
  have E_b0 := E_b0.wr W18
  have F_full_b0 := F_full_b0.other W18 (Or.inr (slot_ne (Or.inl (ow hw 27 rfl)) (Or.inl (ow hw 29 rfl)) (by decide) (t := (.object "java/util/List")) (t' := .int) (by decide) (by decide)))
  have F_last_b0 := F_last_b0.other W18 (Or.inr (slot_ne (Or.inl (ow hw 13 rfl)) (Or.inl (ow hw 29 rfl)) (by decide) (t := (.array .byte)) (t' := .int) (by decide) (by decide)))
  have F_lastLength_b0 := F_lastLength_b0.same W18
  have F_length_b0 := F_length_b0.other W18 (Or.inr (slot_ne (Or.inl (ow hw 20 rfl)) (Or.inl (ow hw 29 rfl)) (by decide) (t := .int) (t' := .int) (by decide) (by decide)))
  have V_sa := V_sa.other W18 (Ne.symm ne_b0_sa)
  have E_em := E_em.wr W18
  have V_em := V_em.other W18 (ne_exa E_em E_b0 (by decide))
  have V_de := V_de.other W18 (O0.ne BB.2.2.2.2.lt g_b0)
  have E_la := E_la.wr W18
  have V_la := V_la.other W18 (Ne.symm ne_b0_la)
  have Z0 := Nat.le_trans Z0 (Keep.of_wr W18).1
  have K0 := K0.wr W18 (Or.inl (List.mem_of_getElem? (i := 0) rfl))
  have N0 := Fr.snoc X18 N0 g_b0
  have O0 := O0.wr W18 g_b0
  refine oS (B := T18.setTop (mkF m 134 #[rv b0, rv sa, iv 0, iv 2] [])) (fun t k => st18 t k) ?_
  refine oS (B := T18.setTop (mkF m 135 #[rv b0, rv sa, iv 0, iv 2] [(.int 0)])) (fun t k => XS.iloadN X18.here hx rfl (hb hby d3_134) rfl k) ?_
  refine oS (B := T18.setTop (mkF m 136 #[rv b0, rv sa, iv 0, iv 2] [(.int 2), (.int 0)])) (fun t k => XS.iloadN X18.here hx rfl (hb hby d3_135) rfl k) ?_
  refine oS (B := T18.setTop (mkF m 137 #[rv b0, rv sa, iv 0, iv 2] [(.int 2)])) (fun t k => XS.iadd X18.here hx rfl (hb hby d3_136) rfl k) ?_
  refine oS (B := T18.setTop (mkF m 138 #[rv b0, rv sa, iv 2, iv 2] [])) (fun t k => XS.istoreN X18.here hx rfl (hb hby d3_137) rfl (l' := #[rv b0, rv sa, iv 2, iv 2]) rfl k) ?_
  refine oS (B := T18.setTop (mkF m 2 #[rv b0, rv sa, iv 2, iv 2] [])) (fun t k => XS.goto X18.here hx rfl (pc0 := 138) (pc' := 2) rfl (hb hby d3_138) (by decide) (by decide) k) ?_
  refine oS (B := T18.setTop (mkF m 3 #[rv b0, rv sa, iv 2, iv 2] [(.int 2)])) (fun t k => XS.iloadN X18.here hx rfl (hb hby d3_2) rfl k) ?_
  refine oS (B := T18.setTop (mkF m 4 #[rv b0, rv sa, iv 2, iv 2] [(.ref sa), (.int 2)])) (fun t k => XS.aloadN X18.here hx rfl (hb hby d3_3) rfl rfl k) ?_
  have Vo_19 := V_sa
  obtain ⟨cl_19, Ar_19, q_19, S_19, M_19, H_19, G_19⟩ := Vo_19
  refine oS (B := T18.setTop (mkF m 5 #[rv b0, rv sa, iv 2, iv 2] [(.int 2), (.int 2)])) (fun t k => X18.arraylength hx (by rw [e18]; exact Ar_19.1) (State.isArrayOf_alike hZ.alike Ar_19.2.1) (g := (mkF m 4 #[rv b0, rv sa, iv 2, iv 2] [(.ref sa), (.int 2)])) rfl rfl (hb hby d3_4) t (by rw [len_of S_19 M_19]; exact k)) ?_
  refine oS (B := T18.setTop (mkF m 141 #[rv b0, rv sa, iv 2, iv 2] [])) (fun t k => XS.icmpYes X18.here hx rfl (pc0 := 5) (pc' := 141) rfl (hb hby d3_5) rfl (flt (by decide)).2.1 (by decide) (by decide) k) ?_
  refine oS (B := T18.setTop (mkF m 142 #[rv b0, rv sa, iv 2, iv 2] [(.ref b0)])) (fun t k => XS.aloadN X18.here hx rfl (hb hby d3_141) rfl rfl k) ?_
  refine oS (B := T18.setTop (mkF m 143 #[rv b0, rv sa, iv 2, iv 2] [(.ref b0), (.ref b0)])) (fun t k => XS.dup X18.here hx rfl (hb hby d3_142) rfl rfl k) ?_
  obtain ⟨T20, X20, e20, st20⟩ := getF X18 hx hZ hown (host := "") (Or.inl (ow hw 19 rfl)) Via.refl e18 F_length_b0 (g := (mkF m 143 #[rv b0, rv sa, iv 2, iv 2] [(.ref b0), (.ref b0)])) rfl rfl (hb hby d3_143)
  refine oS (B := T20.setTop (mkF m 146 #[rv b0, rv sa, iv 2, iv 2] [(.int 0), (.ref b0)])) (fun t k => st20 t k) ?_
  refine oS (B := T20.setTop (mkF m 147 #[rv b0, rv sa, iv 2, iv 2] [(.ref sa), (.int 0), (.ref b0)])) (fun t k => XS.aloadN X20.here hx rfl (hb hby d3_146) rfl rfl k) ?_
  have Vo_21 := V_sa
  obtain ⟨cl_21, Ar_21, q_21, S_21, M_21, H_21, G_21⟩ := Vo_21
  refine oS (B := T20.setTop (mkF m 148 #[rv b0, rv sa, iv 2, iv 2] [(.int 2), (.int 0), (.ref b0)])) (fun t k => X20.arraylength hx (by rw [e20]; exact Ar_21.1) (State.isArrayOf_alike hZ.alike Ar_21.2.1) (g := (mkF m 147 #[rv b0, rv sa, iv 2, iv 2] [(.ref sa), (.int 0), (.ref b0)])) rfl rfl (hb hby d3_147) t (by rw [len_of S_21 M_21]; exact k)) ?_
  refine oS (B := T20.setTop (mkF m 149 #[rv b0, rv sa, iv 2, iv 2] [(.int 2), (.ref b0)])) (fun t k => XS.iadd X20.here hx rfl (hb hby d3_148) rfl k) ?_
  obtain ⟨T22, h22, X22, e22, W22, st22⟩ := putF X20 hx hZ hown (host := "") (Or.inl (ow hw 19 rfl)) Via.refl e20 F_length_b0 E_b0 (Or.inl (ow hw 20 rfl)) (ow hw 2 rfl) (ty := .int) (by decide) rfl rfl (g := (mkF m 149 #[rv b0, rv sa, iv 2, iv 2] [(.int 2), (.ref b0)])) rfl rfl (hb hby d3_149)
  have E_b0 := E_b0.wr W22
  have F_full_b0 := F_full_b0.other W22 (Or.inr (slot_ne (Or.inl (ow hw 27 rfl)) (Or.inl (ow hw 20 rfl)) (by decide) (t := (.object "java/util/List")) (t' := .int) (by decide) (by decide)))
  have F_last_b0 := F_last_b0.other W22 (Or.inr (slot_ne (Or.inl (ow hw 13 rfl)) (Or.inl (ow hw 20 rfl)) (by decide) (t := (.array .byte)) (t' := .int) (by decide) (by decide)))
  have F_lastLength_b0 := F_lastLength_b0.other W22 (Or.inr (slot_ne (Or.inl (ow hw 29 rfl)) (Or.inl (ow hw 20 rfl)) (by decide) (t := .int) (t' := .int) (by decide) (by decide)))
  have F_length_b0 := F_length_b0.same W22
  have V_sa := V_sa.other W22 (Ne.symm ne_b0_sa)
  have E_em := E_em.wr W22
  have V_em := V_em.other W22 (ne_exa E_em E_b0 (by decide))
  have V_de := V_de.other W22 (O0.ne BB.2.2.2.2.lt g_b0)
  have E_la := E_la.wr W22
  have V_la := V_la.other W22 (Ne.symm ne_b0_la)
  have Z0 := Nat.le_trans Z0 (Keep.of_wr W22).1
  have K0 := K0.wr W22 (Or.inl (List.mem_of_getElem? (i := 0) rfl))
  have N0 := Fr.snoc X22 N0 g_b0
  have O0 := O0.wr W22 g_b0
  refine oS (B := T22.setTop (mkF m 152 #[rv b0, rv sa, iv 2, iv 2] [])) (fun t k => st22 t k) ?_
  exact own_retV X22 hx hlk Bd.returns (hb hby d3_152) (by decide) (by decide) (by rw [e22]; exact ⟨_, _, _, _, rfl, N0, K0, F_full_b0, F_last_b0, F_lastLength_b0, F_length_b0⟩)
theorem ef_rma_3 (m : MethodId) (x0 : Addr) (x1 : Addr) : entryFrame m #[(.ref x0), (.ref x1)] 4 = mkF m 0 #[rv x0, rv x1, .unset, .unset] [] := by first | (simp [entryFrame, mkF, argsToLocals, Value.category]; done) | rfl
def QQ_rma_3 (Z : State) (b0 : Addr) (sa : Addr) (em : Addr) (ke : ClassId) (de : Addr) (kd : ClassId) (ks : ClassId) (vs : List Value) (h0 : Heap) (n0 : Nat) (v : Option Value) (h : Heap) (L : List Loc) : Prop := ∃ vf vl vll vlen : Value, v = none ∧ Fr n0 L ∧ Keep h0 h [b0] ∧ Fld Z h b0 "com/example/loomwire/loomwire/transport/MessageBuffer" "full" "Ljava/util/List;" vf ∧ Fld Z h b0 "com/example/loomwire/loomwire/transport/MessageBuffer" "last" "[B" vl ∧ Fld Z h b0 "com/example/loomwire/loomwire/transport/MessageBuffer" "lastLength" "I" vll ∧ Fld Z h b0 "com/example/loomwire/loomwire/transport/MessageBuffer" "length" "I" vlen
set_option maxRecDepth 65536 in
set_option maxHeartbeats 40000000 in
theorem rma_3 (l : Launch) (Z : State) (a0 : Array Value) (hw : ∀ d ∈ tables_1, d.before a0 Z = true) (ws : List Jvm.Cond) (b0 : Addr) (sa : Addr) (em : Addr) (ke : ClassId) (de : Addr) (kd : ClassId) (ks : ClassId) (vs : List Value) (h0 : Heap) (n0 : Nat) (Z0 : n0 ≤ h0.size) (E_b0 : Exa Z h0 b0 "com/example/loomwire/loomwire/transport/MessageBuffer") (g_b0 : n0 ≤ b0) (F_full_b0 : Fld Z h0 b0 "com/example/loomwire/loomwire/transport/MessageBuffer" "full" "Ljava/util/List;" .null) (F_last_b0 : Fld Z h0 b0 "com/example/loomwire/loomwire/transport/MessageBuffer" "last" "[B" (.ref em)) (F_lastLength_b0 : Fld Z h0 b0 "com/example/loomwire/loomwire/transport/MessageBuffer" "lastLength" "I" (.int 0)) (F_length_b0 : Fld Z h0 b0 "com/example/loomwire/loomwire/transport/MessageBuffer" "length" "I" (.int 0)) (BB : own_Base Z em ke de kd) (O0 : Old Z n0 h0) (ne_b0_sa : b0 ≠ sa) (V_sa : Arv Z h0 sa ks .byte (3 : Int32) vs (.int 0)) :
    MetFree l (⟨"com/example/loomwire/loomwire/transport/MessageBuffer", "append", "([B)V"⟩ : MethodName) (head1 (Jvm.Cond.code (⟨"com/example/loomwire/loomwire/transport/MessageBuffer", "append", "([B)V"⟩ : MethodName) prog_102_method_4_code 4 none :: ws) ({ frames := 5, cells := 4, slots := 65551, locals := 80 } : Room)) (fun a U => a = #[(.ref b0), (.ref sa)] ∧ Z.Warmed39 U.vm ∧ U.heap = h0) (fun _ _ _ _ _ => True) (fun _ U o U' => ∃ v L, o = .returned v ∧ (QQ_rma_3 Z b0 sa em ke de kd ks vs h0 n0) v U'.heap L ∧ FrameEnd U o U' L ({ frames := 5, cells := 4, slots := 65551, locals := 80 } : Room).cells ({ frames := 5, cells := 4, slots := 65551, locals := 80 } : Room).slots) := by
  refine MetFree.of_bodySF (plainFor_of_name pn_com_example_loomwire_loomwire_transport_MessageBuffer) hisR ?_
  intro p e s m args below meth c s₁ Bd hml0 hP hK
  obtain ⟨rfl, hZ, hh⟩ := hP
  have hx := Bd.exec
  have hby := Bd.bytes
  have hlk : meth.locks = false := BodyLoose.notSynchronized Bd
  have hml : c.maxLocals = 4 := hml0
  have hown : s.vm.findClass "com/example/loomwire/loomwire/transport/MessageBuffer" = some m.cls := findClass_of_methodNamed Bd.named
  have hnm := (name_of_methodNamed Bd.named Bd.method).1
  have X0 : Stand p l e ({ frames := 5, cells := 4, slots := 65551, locals := 80 } : Room) s m #[(.ref b0), (.ref sa)] below meth c s₁ [] 0 0 := Stand.of_body Bd
  have e0 : s₁.heap = h0 := by rw [← hh, Bd.state]; rfl
  have N0 := Fr.nil n0
  show own_G p.tables e below s (QQ_rma_3 Z b0 sa em ke de kd ks vs h0 n0) ({ frames := 5, cells := 4, slots := 65551, locals := 80 } : Room).cells ({ frames := 5, cells := 4, slots := 65551, locals := 80 } : Room).slots (s₁.setTop (entryFrame m #[(.ref b0), (.ref sa)] 4))
  refine oS (B := s₁.setTop (mkF m 0 #[rv b0, rv sa, .unset, .unset] [])) (fun t k => castTop (ef_rma_3 m b0 sa) k) ?_
  have V_em := BB.2.2.1.ext O0.2
  have E_em := BB.2.1.ext O0.2
  have V_de := BB.2.2.2.2.ext O0.2
  have K0 := Keep.refl h0 [b0]
  refine oS (B := s₁.setTop (mkF m 1 #[rv b0, rv sa, .unset, .unset] [(.int 0)])) (fun t k => XS.iconst X0.here hx rfl (hb hby d3_0) k) ?_
  refine oS (B := s₁.setTop (mkF m 2 #[rv b0, rv sa, iv 0, .unset] [])) (fun t k => XS.istoreN X0.here hx rfl (hb hby d3_1) rfl (l' := #[rv b0, rv sa, iv 0, .unset]) rfl k) ?_
  refine oS (B := s₁.setTop (mkF m 3 #[rv b0, rv sa, iv 0, .unset] [(.int 0)])) (fun t k => XS.iloadN X0.here hx rfl (hb hby d3_2) rfl k) ?_
  refine oS (B := s₁.setTop (mkF m 4 #[rv b0, rv sa, iv 0, .unset] [(.ref sa), (.int 0)])) (fun t k => XS.aloadN X0.here hx rfl (hb hby d3_3) rfl rfl k) ?_
  have Vo_1 := V_sa
  obtain ⟨cl_1, Ar_1, q_1, S_1, M_1, H_1, G_1⟩ := Vo_1
  refine oS (B := s₁.setTop (mkF m 5 #[rv b0, rv sa, iv 0, .unset] [(.int 3), (.int 0)])) (fun t k => X0.arraylength hx (by rw [e0]; exact Ar_1.1) (State.isArrayOf_alike hZ.alike Ar_1.2.1) (g := (mkF m 4 #[rv b0, rv sa, iv 0, .unset] [(.ref sa), (.int 0)])) rfl rfl (hb hby d3_4) t (by rw [len_of S_1 M_1]; exact k)) ?_
  refine oS (B := s₁.setTop (mkF m 8 #[rv b0, rv sa, iv 0, .unset] [])) (fun t k => XS.icmpNo X0.here hx rfl (hb hby d3_5) rfl (tlt (by decide)).2.1 k) ?_
  refine oS (B := s₁.setTop (mkF m 9 #[rv b0, rv sa, iv 0, .unset] [(.ref b0)])) (fun t k => XS.aloadN X0.here hx rfl (hb hby d3_8) rfl rfl k) ?_
  obtain ⟨T2, X2, e2, st2⟩ := getF X0 hx hZ hown (host := "") (Or.inl (ow hw 28 rfl)) Via.refl e0 F_lastLength_b0 (g := (mkF m 9 #[rv b0, rv sa, iv 0, .unset] [(.ref b0)])) rfl rfl (hb hby d3_9)
  refine oS (B := T2.setTop (mkF m 12 #[rv b0, rv sa, iv 0, .unset] [(.int 0)])) (fun t k => st2 t k) ?_
  refine oS (B := T2.setTop (mkF m 14 #[rv b0, rv sa, iv 0, .unset] [(.int 65536), (.int 0)])) (fun t k => X2.ldcInt hx hown (mvT hZ (ow hw 54 rfl)) (g := (mkF m 12 #[rv b0, rv sa, iv 0, .unset] [(.int 0)])) rfl (hb hby d3_12) t k) ?_
  refine oS (B := T2.setTop (mkF m 61 #[rv b0, rv sa, iv 0, .unset] [])) (fun t k => XS.icmpYes X2.here hx rfl (pc0 := 14) (pc' := 61) rfl (hb hby d3_14) rfl (feq (by decide)).2 (by decide) (by decide) k) ?_
  refine oS (B := T2.setTop (mkF m 62 #[rv b0, rv sa, iv 0, .unset] [(.ref sa)])) (fun t k => XS.aloadN X2.here hx rfl (hb hby d3_61) rfl rfl k) ?_
  have Vo_3 := V_sa
  obtain ⟨cl_3, Ar_3, q_3, S_3, M_3, H_3, G_3⟩ := Vo_3
  refine oS (B := T2.setTop (mkF m 63 #[rv b0, rv sa, iv 0, .unset] [(.int 3)])) (fun t k => X2.arraylength hx (by rw [e2]; exact Ar_3.1) (State.isArrayOf_alike hZ.alike Ar_3.2.1) (g := (mkF m 62 #[rv b0, rv sa, iv 0, .unset] [(.ref sa)])) rfl rfl (hb hby d3_62) t (by rw [len_of S_3 M_3]; exact k)) ?_
  refine oS (B := T2.setTop (mkF m 64 #[rv b0, rv sa, iv 0, .unset] [(.int 0), (.int 3)])) (fun t k => XS.iloadN X2.here hx rfl (hb hby d3_63) rfl k) ?_
  refine oS (B := T2.setTop (mkF m 65 #[rv b0, rv sa, iv 0, .unset] [(.int 3)])) (fun t k => XS.isub X2.here hx rfl (hb hby d3_64) rfl k) ?_
  refine oS (B := T2.setTop (mkF m 67 #[rv b0, rv sa, iv 0, .unset] [(.int 65536), (.int 3)])) (fun t k => X2.ldcInt hx hown (mvT hZ (ow hw 54 rfl)) (g := (mkF m 65 #[rv b0, rv sa, iv 0, .unset] [(.int 3)])) rfl (hb hby d3_65) t k) ?_
  refine oS (B := T2.setTop (mkF m 68 #[rv b0, rv sa, iv 0, .unset] [(.ref b0), (.int 65536), (.int 3)])) (fun t k => XS.aloadN X2.here hx rfl (hb hby d3_67) rfl rfl k) ?_
  obtain ⟨T4, X4, e4, st4⟩ := getF X2 hx hZ hown (host := "") (Or.inl (ow hw 28 rfl)) Via.refl e2 F_lastLength_b0 (g := (mkF m 68 #[rv b0, rv sa, iv 0, .unset] [(.ref b0), (.int 65536), (.int 3)])) rfl rfl (hb hby d3_68)
  refine oS (B := T4.setTop (mkF m 71 #[rv b0, rv sa, iv 0, .unset] [(.int 0), (.int 65536), (.int 3)])) (fun t k => st4 t k) ?_
  refine oS (B := T4.setTop (mkF m 72 #[rv b0, rv sa, iv 0, .unset] [(.int 65536), (.int 3)])) (fun t k => XS.isub X4.here hx rfl (hb hby d3_71) rfl k) ?_
  obtain ⟨_, _, ⟨T5, L5, k5, n5⟩, -, X5, ⟨Lc5, hQ5, l5, y5, z5⟩, st5⟩ := Jvm.LawKit.callS X4 hx (y := (⟨"java/lang/Math", "min", "(II)I"⟩ : MethodName)) hown (mvT hZ (ow hw 55 rfl)) (mvT hZ (ow hw 56 rfl)) (mvT hZ (ow hw 57 rfl)) (mvT hZ (ow hw 58 rfl)) (by decide) (backOf (W := 0) (rm8 l Z a0 hw [] (3 : Int32) (65536 : Int32)  h0 n0 Z0 ) hZ (ow hw 58 rfl) (ow hw 57 rfl) (by decide) (by decide)) (g := (mkF m 72 #[rv b0, rv sa, iv 0, .unset] [(.int 65536), (.int 3)])) rfl (by rw [hml]; rfl) (argsL := [(.int 3), (.int 65536)]) (rest := []) (lenOf pd_1 rfl) rfl (by show 2 * 0 + _ ≤ _; exact Nat.le_of_eq rfl) (hb hby d3_72) (fun _ _ => ⟨rfl, e4, (by decide : 0 + 0 ≤ _), (by decide : 0 + 0 ≤ _)⟩)
  dsimp only [Pt.U, Pt.locs, Pt.cells, Pt.slots] at X5 l5 y5 z5 st5 hQ5
  subst l5 y5 z5
  obtain ⟨rfl, N5q, e5⟩ := hQ5
  have N0 := Fr.app N0 N5q
  refine oS (B := T5.setTop (mkF m 75 #[rv b0, rv sa, iv 0, .unset] [(.int (own_min (3 : Int32) (65536 : Int32)))])) (fun t k => st5 t k) ?_
  have hlit5 : (own_min (3 : Int32) (65536 : Int32)) = (3 : Int32) := by decide
  rw [hlit5]
  refine oS (B := T5.setTop (mkF m 76 #[rv b0, rv sa, iv 0, iv 3] [])) (fun t k => XS.istoreN X5.here hx rfl (hb hby d3_75) rfl (l' := #[rv b0, rv sa, iv 0, iv 3]) rfl k) ?_
  refine oS (B := T5.setTop (mkF m 77 #[rv b0, rv sa, iv 0, iv 3] [(.ref b0)])) (fun t k => XS.aloadN X5.here hx rfl (hb hby d3_76) rfl rfl k) ?_
  obtain ⟨T6, X6, e6, st6⟩ := getF X5 hx hZ hown (host := "") (Or.inl (ow hw 28 rfl)) Via.refl e5 F_lastLength_b0 (g := (mkF m 77 #[rv b0, rv sa, iv 0, iv 3] [(.ref b0)])) rfl rfl (hb hby d3_77)
  refine oS (B := T6.setTop (mkF m 80 #[rv b0, rv sa, iv 0, iv 3] [(.int 0)])) (fun t k => st6 t k) ?_
  refine oS (B := T6.setTop (mkF m 81 #[rv b0, rv sa, iv 0, iv 3] [(.int 3), (.int 0)])) (fun t k => XS.iloadN X6.here hx rfl (hb hby d3_80) rfl k) ?_
  refine oS (B := T6.setTop (mkF m 82 #[rv b0, rv sa, iv 0, iv 3] [(.int 3)])) (fun t k => XS.iadd X6.here hx rfl (hb hby d3_81) rfl k) ?_
  refine oS (B := T6.setTop (mkF m 83 #[rv b0, rv sa, iv 0, iv 3] [(.ref b0), (.int 3)])) (fun t k => XS.aloadN X6.here hx rfl (hb hby d3_82) rfl rfl k) ?_
  obtain ⟨T7, X7, e7, st7⟩ := getF X6 hx hZ hown (host := "") (Or.inl (ow hw 12 rfl)) Via.refl e6 F_last_b0 (g := (mkF m 83 #[rv b0, rv sa, iv 0, iv 3] [(.ref b0), (.int 3)])) rfl rfl (hb hby d3_83)
  refine oS (B := T7.setTop (mkF m 86 #[rv b0, rv sa, iv 0, iv 3] [(.ref em), (.int 3)])) (fun t k => st7 t k) ?_
  have Vo_8 := V_em
  obtain ⟨cl_8, Ar_8, q_8, S_8, M_8, H_8, G_8⟩ := Vo_8
  refine oS (B := T7.setTop (mkF m 87 #[rv b0, rv sa, iv 0, iv 3] [(.int 0), (.int 3)])) (fun t k => X7.arraylength hx (by rw [e7]; exact Ar_8.1) (State.isArrayOf_alike hZ.alike Ar_8.2.1) (g := (mkF m 86 #[rv b0, rv sa, iv 0, iv 3] [(.ref em), (.int 3)])) rfl rfl (hb hby d3_86) t (by rw [len_of S_8 M_8]; exact k)) ?_
  refine oS (B := T7.setTop (mkF m 90 #[rv b0, rv sa, iv 0, iv 3] [])) (fun t k => XS.icmpNo X7.here hx rfl (hb hby d3_87) rfl (tlt (by decide)).2.2.2 k) ?_
  refine oS (B := T7.setTop (mkF m 91 #[rv b0, rv sa, iv 0, iv 3] [(.ref b0)])) (fun t k => XS.aloadN X7.here hx rfl (hb hby d3_90) rfl rfl k) ?_
  refine oS (B := T7.setTop (mkF m 92 #[rv b0, rv sa, iv 0, iv 3] [(.ref b0), (.ref b0)])) (fun t k => XS.aloadN X7.here hx rfl (hb hby d3_91) rfl rfl k) ?_
  obtain ⟨T9, X9, e9, st9⟩ := getF X7 hx hZ hown (host := "") (Or.inl (ow hw 12 rfl)) Via.refl e7 F_last_b0 (g := (mkF m 92 #[rv b0, rv sa, iv 0, iv 3] [(.ref b0), (.ref b0)])) rfl rfl (hb hby d3_92)
  refine oS (B := T9.setTop (mkF m 95 #[rv b0, rv sa, iv 0, iv 3] [(.ref em), (.ref b0)])) (fun t k => st9 t k) ?_
  refine oS (B := T9.setTop (mkF m 96 #[rv b0, rv sa, iv 0, iv 3] [(.ref b0), (.ref em), (.ref b0)])) (fun t k => XS.aloadN X9.here hx rfl (hb hby d3_95) rfl rfl k) ?_
  obtain ⟨T10, X10, e10, st10⟩ := getF X9 hx hZ hown (host := "") (Or.inl (ow hw 28 rfl)) Via.refl e9 F_lastLength_b0 (g := (mkF m 96 #[rv b0, rv sa, iv 0, iv 3] [(.ref b0), (.ref em), (.ref b0)])) rfl rfl (hb hby d3_96)
  refine oS (B := T10.setTop (mkF m 99 #[rv b0, rv sa, iv 0, iv 3] [(.int 0), (.ref em), (.ref b0)])) (fun t k => st10 t k) ?_
  refine oS (B := T10.setTop (mkF m 100 #[rv b0, rv sa, iv 0, iv 3] [(.int 3), (.int 0), (.ref em), (.ref b0)])) (fun t k => XS.iloadN X10.here hx rfl (hb hby d3_99) rfl k) ?_
  refine oS (B := T10.setTop (mkF m 101 #[rv b0, rv sa, iv 0, iv 3] [(.int 3), (.ref em), (.ref b0)])) (fun t k => XS.iadd X10.here hx rfl (hb hby d3_100) rfl k) ?_
  obtain ⟨_, _, ⟨T11, L11, k11, n11⟩, -, X11, ⟨Lc11, hQ11, l11, y11, z11⟩, st11⟩ := Jvm.LawKit.callS X10 hx (y := (⟨"com/example/loomwire/loomwire/transport/MessageBuffer", "chunkCapacity", "(I)I"⟩ : MethodName)) hown (mvT hZ (ow hw 59 rfl)) (mvT hZ (ow hw 60 rfl)) (mvT hZ (ow hw 3 rfl)) (mvT hZ (ow hw 61 rfl)) (by decide) (backOf (W := 2) (rm9_3 l Z a0 hw []   h0 n0 Z0 ) hZ (ow hw 61 rfl) (ow hw 3 rfl) (by decide) (by decide)) (g := (mkF m 101 #[rv b0, rv sa, iv 0, iv 3] [(.int 3), (.ref em), (.ref b0)])) rfl (by rw [hml]; rfl) (argsL := [(.int 3)]) (rest := [(.ref em), (.ref b0)]) (lenOf pd_0 rfl) rfl (by show 2 * 0 + _ ≤ _; exact Nat.le_of_eq rfl) (hb hby d3_101) (fun _ _ => ⟨rfl, e10, (by decide : 0 + 0 ≤ _), (by decide : 0 + 0 ≤ _)⟩)
  dsimp only [Pt.U, Pt.locs, Pt.cells, Pt.slots] at X11 l11 y11 z11 st11 hQ11
  subst l11 y11 z11
  obtain ⟨rfl, N11q, e11⟩ := hQ11
  have N0 := Fr.app N0 N11q
  refine oS (B := T11.setTop (mkF m 104 #[rv b0, rv sa, iv 0, iv 3] [(.int 4), (.ref em), (.ref b0)])) (fun t k => st11 t k) ?_
  have lt_b0 := E_b0.lt
  have lt_sa := V_sa.lt
  have KZ := K0
  obtain ⟨_, _, ⟨T12, L12, k12, n12⟩, -, X12, ⟨Lc12, hQ12, l12, y12, z12⟩, st12⟩ := Jvm.LawKit.callS X11 hx (y := (⟨"java/util/Arrays", "copyOf", "([BI)[B"⟩ : MethodName)) hown (mvT hZ (ow hw 40 rfl)) (mvT hZ (ow hw 41 rfl)) (mvT hZ (ow hw 42 rfl)) (mvT hZ (ow hw 43 rfl)) (by decide) (backOf (W := 1) (rmg_4 l Z a0 hw []  em ke de kd h0 n0 Z0 BB O0) hZ (ow hw 43 rfl) (ow hw 42 rfl) (by decide) (by decide)) (g := (mkF m 104 #[rv b0, rv sa, iv 0, iv 3] [(.int 4), (.ref em), (.ref b0)])) rfl (by rw [hml]; rfl) (argsL := [(.ref em), (.int 4)]) (rest := [(.ref b0)]) (lenOf pd_6 rfl) rfl (by show 2 * 0 + _ ≤ _; exact Nat.le_of_eq rfl) (hb hby d3_104) (fun _ _ => ⟨rfl, e11, (by decide : 0 + 1 ≤ _), (by decide : 0 + 4 ≤ _)⟩)
  dsimp only [Pt.U, Pt.locs, Pt.cells, Pt.slots] at X12 l12 y12 z12 st12 hQ12
  subst l12 y12 z12
  obtain ⟨la, kla, vla, rfl, N12q, K12, g_la, sz'_la, E_la, V_la, hlla⟩ := hQ12
  have N0 := Fr.app N0 N12q
  have E_b0 := E_b0.keep K12
  have F_full_b0 := F_full_b0.keep K12 nin0
  have F_last_b0 := F_last_b0.keep K12 nin0
  have F_lastLength_b0 := F_lastLength_b0.keep K12 nin0
  have F_length_b0 := F_length_b0.keep K12 nin0
  have V_sa := V_sa.keep K12 nin0
  have E_em := E_em.keep K12
  have V_em := V_em.keep K12 nin0
  have V_de := V_de.keep K12 nin0
  have Z0 := Nat.le_trans Z0 K12.1
  have O0 := O0.keep K12 all0
  have K0 := K0.trans K12 all0
  have ne_b0_la : b0 ≠ la := Nat.ne_of_lt (Nat.lt_of_lt_of_le lt_b0 sz'_la)
  have ne_sa_la : sa ≠ la := Nat.ne_of_lt (Nat.lt_of_lt_of_le lt_sa sz'_la)
  have sz_la : h0.size ≤ la := Nat.le_trans KZ.1 sz'_la
  refine oS (B := T12.setTop (mkF m 107 #[rv b0, rv sa, iv 0, iv 3] [(.ref la), (.ref b0)])) (fun t k => st12 t k) ?_
  obtain ⟨T13, h13, X13, e13, W13, st13⟩ := putF X12 hx hZ hown (host := "") (Or.inl (ow hw 12 rfl)) Via.refl rfl F_last_b0 E_b0 (Or.inl (ow hw 13 rfl)) (ow hw 2 rfl) (ty := (.array .byte)) (by decide) rfl rfl (g := (mkF m 107 #[rv b0, rv sa, iv 0, iv 3] [(.ref la), (.ref b0)])) rfl rfl (hb hby d3_107)
  have E_b0 := E_b0.wr W13
  have F_full_b0 := F_full_b0.other W13 (Or.inr (slot_ne (Or.inl (ow hw 27 rfl)) (Or.inl (ow hw 13 rfl)) (by decide) (t := (.object "java/util/List")) (t' := (.array .byte)) (by decide) (by decide)))
  have F_last_b0 := F_last_b0.same W13
  have F_lastLength_b0 := F_lastLength_b0.other W13 (Or.inr (slot_ne (Or.inl (ow hw 29 rfl)) (Or.inl (ow hw 13 rfl)) (by decide) (t := .int) (t' := (.array .byte)) (by decide) (by decide)))
  have F_length_b0 := F_length_b0.other W13 (Or.inr (slot_ne (Or.inl (ow hw 20 rfl)) (Or.inl (ow hw 13 rfl)) (by decide) (t := .int) (t' := (.array .byte)) (by decide) (by decide)))
  have V_sa := V_sa.other W13 (Ne.symm ne_b0_sa)
  have E_em := E_em.wr W13
  have V_em := V_em.other W13 (ne_exa E_em E_b0 (by decide))
  have V_de := V_de.other W13 (O0.ne BB.2.2.2.2.lt g_b0)
  have E_la := E_la.wr W13
  have V_la := V_la.other W13 (Ne.symm ne_b0_la)
  have Z0 := Nat.le_trans Z0 (Keep.of_wr W13).1
  have K0 := K0.wr W13 (Or.inl (List.mem_of_getElem? (i := 0) rfl))
  have N0 := Fr.snoc X13 N0 g_b0
  have O0 := O0.wr W13 g_b0
  refine oS (B := T13.setTop (mkF m 110 #[rv b0, rv sa, iv 0, iv 3] [])) (fun t k => st13 t k) ?_
  refine oS (B := T13.setTop (mkF m 111 #[rv b0, rv sa, iv 0, iv 3] [(.ref sa)])) (fun t k => XS.aloadN X13.here hx rfl (hb hby d3_110) rfl rfl k) ?_
  refine oS (B := T13.setTop (mkF m 112 #[rv b0, rv sa, iv 0, iv 3] [(.int 0), (.ref sa)])) (fun t k => XS.iloadN X13.here hx rfl (hb hby d3_111) rfl k) ?_
  refine oS (B := T13.setTop (mkF m 113 #[rv b0, rv sa, iv 0, iv 3] [(.ref b0), (.int 0), (.ref sa)])) (fun t k => XS.aloadN X13.here hx rfl (hb hby d3_112) rfl rfl k) ?_
  obtain ⟨T14, X14, e14, st14⟩ := getF X13 hx hZ hown (host := "") (Or.inl (ow hw 12 rfl)) Via.refl e13 F_last_b0 (g := (mkF m 113 #[rv b0, rv sa, iv 0, iv 3] [(.ref b0), (.int 0), (.ref sa)])) rfl rfl (hb hby d3_113)
  refine oS (B := T14.setTop (mkF m 116 #[rv b0, rv sa, iv 0, iv 3] [(.ref la), (.int 0), (.ref sa)])) (fun t k => st14 t k) ?_
  refine oS (B := T14.setTop (mkF m 117 #[rv b0, rv sa, iv 0, iv 3] [(.ref b0), (.ref la), (.int 0), (.ref sa)])) (fun t k => XS.aloadN X14.here hx rfl (hb hby d3_116) rfl rfl k) ?_
  obtain ⟨T15, X15, e15, st15⟩ := getF X14 hx hZ hown (host := "") (Or.inl (ow hw 28 rfl)) Via.refl e14 F_lastLength_b0 (g := (mkF m 117 #[rv b0, rv sa, iv 0, iv 3] [(.ref b0), (.ref la), (.int 0), (.ref sa)])) rfl rfl (hb hby d3_117)
  refine oS (B := T15.setTop (mkF m 120 #[rv b0, rv sa, iv 0, iv 3] [(.int 0), (.ref la), (.int 0), (.ref sa)])) (fun t k => st15 t k) ?_
  refine oS (B := T15.setTop (mkF m 121 #[rv b0, rv sa, iv 0, iv 3] [(.int 3), (.int 0), (.ref la), (.int 0), (.ref sa)])) (fun t k => XS.iloadN X15.here hx rfl (hb hby d3_120) rfl k) ?_
  obtain ⟨T16, h16, L16, X16, e16, N16q, K16, VC16, st16⟩ := cpA X15 hx hZ hown (ow hw 76 rfl) (ow hw 75 rfl) (ow hw 73 rfl) (ow hw 74 rfl) e15 V_sa V_la (Or.inl ⟨rfl, rfl⟩) (by decide) (by decide) (by decide) (by decide) (by decide) rfl (by rw [hlla]; decide) N0 g_la (g := (mkF m 121 #[rv b0, rv sa, iv 0, iv 3] [(.int 3), (.int 0), (.ref la), (.int 0), (.ref sa)])) rfl (by rw [hml]; rfl) rfl (hb hby d3_121) (by decide) (W := 0) (by show 2 * 0 + _ ≤ _; exact Nat.le_of_eq rfl) (by decide)
  have E_b0 := E_b0.keep K16
  have F_full_b0 := F_full_b0.keep K16 (ninS ne_b0_la nin0)
  have F_last_b0 := F_last_b0.keep K16 (ninS ne_b0_la nin0)
  have F_lastLength_b0 := F_lastLength_b0.keep K16 (ninS ne_b0_la nin0)
  have F_length_b0 := F_length_b0.keep K16 (ninS ne_b0_la nin0)
  have V_sa := V_sa.keep K16 (ninS ne_sa_la nin0)
  have E_em := E_em.keep K16
  have V_em := V_em.keep K16 (ninS (O0.ne BB.2.2.1.lt g_la) nin0)
  have V_de := V_de.keep K16 (ninS (O0.ne BB.2.2.2.2.lt g_la) nin0)
  have E_la := E_la.keep K16
  have Z0 := Nat.le_trans Z0 K16.1
  have O0 := O0.keep K16 (allS g_la all0)
  have K0 := K0.trans K16 (allS (Or.inr sz_la) all0)
  have N0 := N16q
  have V_la := VC16
  refine oS (B := T16.setTop (mkF m 124 #[rv b0, rv sa, iv 0, iv 3] [])) (fun t k => st16 t k) ?_
  refine oS (B := T16.setTop (mkF m 125 #[rv b0, rv sa, iv 0, iv 3] [(.ref b0)])) (fun t k => XS.aloadN X16.here hx rfl (hb hby d3_124) rfl rfl k) ?_
  refine oS (B := T16.setTop (mkF m 126 #[rv b0, rv sa, iv 0, iv 3] [(.ref b0), (.ref b0)])) (fun t k => XS.dup X16.here hx rfl (hb hby d3_125) rfl rfl k) ?_
  obtain ⟨T17, X17, e17, st17⟩ := getF X16 hx hZ hown (host := "") (Or.inl (ow hw 28 rfl)) Via.refl e16 F_lastLength_b0 (g := (mkF m 126 #[rv b0, rv sa, iv 0, iv 3] [(.ref b0), (.ref b0)])) rfl rfl (hb hby d3_126)
  refine oS (B := T17.setTop (mkF m 129 #[rv b0, rv sa, iv 0, iv 3] [(.int 0), (.ref b0)])) (fun t k => st17 t k) ?_
  refine oS (B := T17.setTop (mkF m 130 #[rv b0, rv sa, iv 0, iv 3] [(.int 3), (.int 0), (.ref b0)])) (fun t k => XS.iloadN X17.here hx rfl (hb hby d3_129) rfl k) ?_
  refine oS (B := T17.setTop (mkF m 131 #[rv b0, rv sa, iv 0, iv 3] [(.int 3), (.ref b0)])) (fun t k => XS.iadd X17.here hx rfl (hb hby d3_130) rfl k) ?_
  obtain ⟨T18, h18, X18, e18, W18, st18⟩ := putF X17 hx hZ hown (host := "") (Or.inl (ow hw 28 rfl)) Via.refl e17 F_lastLength_b0 E_b0 (Or.inl (ow hw 29 rfl)) (ow hw 2 rfl) (ty := .int) (by decide) rfl rfl (g := (mkF m 131 #[rv b0, rv sa, iv 0, iv 3] [(.int 3), (.ref b0)])) rfl rfl (hb hby d3_131)
  have E_b0 := E_b0.wr W18
  have F_full_b0 := F_full_b0.other W18 (Or.inr (slot_ne (Or.inl (ow hw 27 rfl)) (Or.inl (ow hw 29 rfl)) (by decide) (t := (.object "java/util/List")) (t' := .int) (by decide) (by decide)))
  have F_last_b0 := F_last_b0.other W18 (Or.inr (slot_ne (Or.inl (ow hw 13 rfl)) (Or.inl (ow hw 29 rfl)) (by decide) (t := (.array .byte)) (t' := .int) (by decide) (by decide)))
  have F_lastLength_b0 := F_lastLength_b0.same W18
  have F_length_b0 := F_length_b0.other W18 (Or.inr (slot_ne (Or.inl (ow hw 20 rfl)) (Or.inl (ow hw 29 rfl)) (by decide) (t := .int) (t' := .int) (by decide) (by decide)))
  have V_sa := V_sa.other W18 (Ne.symm ne_b0_sa)
  have E_em := E_em.wr W18
  have V_em := V_em.other W18 (ne_exa E_em E_b0 (by decide))
  have V_de := V_de.other W18 (O0.ne BB.2.2.2.2.lt g_b0)
  have E_la := E_la.wr W18
  have V_la := V_la.other W18 (Ne.symm ne_b0_la)
  have Z0 := Nat.le_trans Z0 (Keep.of_wr W18).1
  have K0 := K0.wr W18 (Or.inl (List.mem_of_getElem? (i := 0) rfl))
  have N0 := Fr.snoc X18 N0 g_b0
  have O0 := O0.wr W18 g_b0
  refine oS (B := T18.setTop (mkF m 134 #[rv b0, rv sa, iv 0, iv 3] [])) (fun t k => st18 t k) ?_
  refine oS (B := T18.setTop (mkF m 135 #[rv b0, rv sa, iv 0, iv 3] [(.int 0)])) (fun t k => XS.iloadN X18.here hx rfl (hb hby d3_134) rfl k) ?_
  refine oS (B := T18.setTop (mkF m 136 #[rv b0, rv sa, iv 0, iv 3] [(.int 3), (.int 0)])) (fun t k => XS.iloadN X18.here hx rfl (hb hby d3_135) rfl k) ?_
  refine oS (B := T18.setTop (mkF m 137 #[rv b0, rv sa, iv 0, iv 3] [(.int 3)])) (fun t k => XS.iadd X18.here hx rfl (hb hby d3_136) rfl k) ?_
  refine oS (B := T18.setTop (mkF m 138 #[rv b0, rv sa, iv 3, iv 3] [])) (fun t k => XS.istoreN X18.here hx rfl (hb hby d3_137) rfl (l' := #[rv b0, rv sa, iv 3, iv 3]) rfl k) ?_
  refine oS (B := T18.setTop (mkF m 2 #[rv b0, rv sa, iv 3, iv 3] [])) (fun t k => XS.goto X18.here hx rfl (pc0 := 138) (pc' := 2) rfl (hb hby d3_138) (by decide) (by decide) k) ?_
  refine oS (B := T18.setTop (mkF m 3 #[rv b0, rv sa, iv 3, iv 3] [(.int 3)])) (fun t k => XS.iloadN X18.here hx rfl (hb hby d3_2) rfl k) ?_
  refine oS (B := T18.setTop (mkF m 4 #[rv b0, rv sa, iv 3, iv 3] [(.ref sa), (.int 3)])) (fun t k => XS.aloadN X18.here hx rfl (hb hby d3_3) rfl rfl k) ?_
  have Vo_19 := V_sa
  obtain ⟨cl_19, Ar_19, q_19, S_19, M_19, H_19, G_19⟩ := Vo_19
  refine oS (B := T18.setTop (mkF m 5 #[rv b0, rv sa, iv 3, iv 3] [(.int 3), (.int 3)])) (fun t k => X18.arraylength hx (by rw [e18]; exact Ar_19.1) (State.isArrayOf_alike hZ.alike Ar_19.2.1) (g := (mkF m 4 #[rv b0, rv sa, iv 3, iv 3] [(.ref sa), (.int 3)])) rfl rfl (hb hby d3_4) t (by rw [len_of S_19 M_19]; exact k)) ?_
  refine oS (B := T18.setTop (mkF m 141 #[rv b0, rv sa, iv 3, iv 3] [])) (fun t k => XS.icmpYes X18.here hx rfl (pc0 := 5) (pc' := 141) rfl (hb hby d3_5) rfl (flt (by decide)).2.1 (by decide) (by decide) k) ?_
  refine oS (B := T18.setTop (mkF m 142 #[rv b0, rv sa, iv 3, iv 3] [(.ref b0)])) (fun t k => XS.aloadN X18.here hx rfl (hb hby d3_141) rfl rfl k) ?_
  refine oS (B := T18.setTop (mkF m 143 #[rv b0, rv sa, iv 3, iv 3] [(.ref b0), (.ref b0)])) (fun t k => XS.dup X18.here hx rfl (hb hby d3_142) rfl rfl k) ?_
  obtain ⟨T20, X20, e20, st20⟩ := getF X18 hx hZ hown (host := "") (Or.inl (ow hw 19 rfl)) Via.refl e18 F_length_b0 (g := (mkF m 143 #[rv b0, rv sa, iv 3, iv 3] [(.ref b0), (.ref b0)])) rfl rfl (hb hby d3_143)
  refine oS (B := T20.setTop (mkF m 146 #[rv b0, rv sa, iv 3, iv 3] [(.int 0), (.ref b0)])) (fun t k => st20 t k) ?_
  refine oS (B := T20.setTop (mkF m 147 #[rv b0, rv sa, iv 3, iv 3] [(.ref sa), (.int 0), (.ref b0)])) (fun t k => XS.aloadN X20.here hx rfl (hb hby d3_146) rfl rfl k) ?_
  have Vo_21 := V_sa
  obtain ⟨cl_21, Ar_21, q_21, S_21, M_21, H_21, G_21⟩ := Vo_21
  refine oS (B := T20.setTop (mkF m 148 #[rv b0, rv sa, iv 3, iv 3] [(.int 3), (.int 0), (.ref b0)])) (fun t k => X20.arraylength hx (by rw [e20]; exact Ar_21.1) (State.isArrayOf_alike hZ.alike Ar_21.2.1) (g := (mkF m 147 #[rv b0, rv sa, iv 3, iv 3] [(.ref sa), (.int 0), (.ref b0)])) rfl rfl (hb hby d3_147) t (by rw [len_of S_21 M_21]; exact k)) ?_
  refine oS (B := T20.setTop (mkF m 149 #[rv b0, rv sa, iv 3, iv 3] [(.int 3), (.ref b0)])) (fun t k => XS.iadd X20.here hx rfl (hb hby d3_148) rfl k) ?_
  obtain ⟨T22, h22, X22, e22, W22, st22⟩ := putF X20 hx hZ hown (host := "") (Or.inl (ow hw 19 rfl)) Via.refl e20 F_length_b0 E_b0 (Or.inl (ow hw 20 rfl)) (ow hw 2 rfl) (ty := .int) (by decide) rfl rfl (g := (mkF m 149 #[rv b0, rv sa, iv 3, iv 3] [(.int 3), (.ref b0)])) rfl rfl (hb hby d3_149)
  have E_b0 := E_b0.wr W22
  have F_full_b0 := F_full_b0.other W22 (Or.inr (slot_ne (Or.inl (ow hw 27 rfl)) (Or.inl (ow hw 20 rfl)) (by decide) (t := (.object "java/util/List")) (t' := .int) (by decide) (by decide)))
  have F_last_b0 := F_last_b0.other W22 (Or.inr (slot_ne (Or.inl (ow hw 13 rfl)) (Or.inl (ow hw 20 rfl)) (by decide) (t := (.array .byte)) (t' := .int) (by decide) (by decide)))
  have F_lastLength_b0 := F_lastLength_b0.other W22 (Or.inr (slot_ne (Or.inl (ow hw 29 rfl)) (Or.inl (ow hw 20 rfl)) (by decide) (t := .int) (t' := .int) (by decide) (by decide)))
  have F_length_b0 := F_length_b0.same W22
  have V_sa := V_sa.other W22 (Ne.symm ne_b0_sa)
  have E_em := E_em.wr W22
  have V_em := V_em.other W22 (ne_exa E_em E_b0 (by decide))
  have V_de := V_de.other W22 (O0.ne BB.2.2.2.2.lt g_b0)
  have E_la := E_la.wr W22
  have V_la := V_la.other W22 (Ne.symm ne_b0_la)
  have Z0 := Nat.le_trans Z0 (Keep.of_wr W22).1
  have K0 := K0.wr W22 (Or.inl (List.mem_of_getElem? (i := 0) rfl))
  have N0 := Fr.snoc X22 N0 g_b0
  have O0 := O0.wr W22 g_b0
  refine oS (B := T22.setTop (mkF m 152 #[rv b0, rv sa, iv 3, iv 3] [])) (fun t k => st22 t k) ?_
  exact own_retV X22 hx hlk Bd.returns (hb hby d3_152) (by decide) (by decide) (by rw [e22]; exact ⟨_, _, _, _, rfl, N0, K0, F_full_b0, F_last_b0, F_lastLength_b0, F_length_b0⟩)
theorem ef_rma_4 (m : MethodId) (x0 : Addr) (x1 : Addr) : entryFrame m #[(.ref x0), (.ref x1)] 4 = mkF m 0 #[rv x0, rv x1, .unset, .unset] [] := by first | (simp [entryFrame, mkF, argsToLocals, Value.category]; done) | rfl
def QQ_rma_4 (Z : State) (b0 : Addr) (sa : Addr) (em : Addr) (ke : ClassId) (de : Addr) (kd : ClassId) (ks : ClassId) (vs : List Value) (h0 : Heap) (n0 : Nat) (v : Option Value) (h : Heap) (L : List Loc) : Prop := ∃ vf vl vll vlen : Value, v = none ∧ Fr n0 L ∧ Keep h0 h [b0] ∧ Fld Z h b0 "com/example/loomwire/loomwire/transport/MessageBuffer" "full" "Ljava/util/List;" vf ∧ Fld Z h b0 "com/example/loomwire/loomwire/transport/MessageBuffer" "last" "[B" vl ∧ Fld Z h b0 "com/example/loomwire/loomwire/transport/MessageBuffer" "lastLength" "I" vll ∧ Fld Z h b0 "com/example/loomwire/loomwire/transport/MessageBuffer" "length" "I" vlen
set_option maxRecDepth 65536 in
set_option maxHeartbeats 40000000 in
theorem rma_4 (l : Launch) (Z : State) (a0 : Array Value) (hw : ∀ d ∈ tables_1, d.before a0 Z = true) (ws : List Jvm.Cond) (b0 : Addr) (sa : Addr) (em : Addr) (ke : ClassId) (de : Addr) (kd : ClassId) (ks : ClassId) (vs : List Value) (h0 : Heap) (n0 : Nat) (Z0 : n0 ≤ h0.size) (E_b0 : Exa Z h0 b0 "com/example/loomwire/loomwire/transport/MessageBuffer") (g_b0 : n0 ≤ b0) (F_full_b0 : Fld Z h0 b0 "com/example/loomwire/loomwire/transport/MessageBuffer" "full" "Ljava/util/List;" .null) (F_last_b0 : Fld Z h0 b0 "com/example/loomwire/loomwire/transport/MessageBuffer" "last" "[B" (.ref em)) (F_lastLength_b0 : Fld Z h0 b0 "com/example/loomwire/loomwire/transport/MessageBuffer" "lastLength" "I" (.int 0)) (F_length_b0 : Fld Z h0 b0 "com/example/loomwire/loomwire/transport/MessageBuffer" "length" "I" (.int 0)) (BB : own_Base Z em ke de kd) (O0 : Old Z n0 h0) (ne_b0_sa : b0 ≠ sa) (V_sa : Arv Z h0 sa ks .byte (4 : Int32) vs (.int 0)) :
    MetFree l (⟨"com/example/loomwire/loomwire/transport/MessageBuffer", "append", "([B)V"⟩ : MethodName) (head1 (Jvm.Cond.code (⟨"com/example/loomwire/loomwire/transport/MessageBuffer", "append", "([B)V"⟩ : MethodName) prog_102_method_4_code 4 none :: ws) ({ frames := 5, cells := 4, slots := 65551, locals := 80 } : Room)) (fun a U => a = #[(.ref b0), (.ref sa)] ∧ Z.Warmed39 U.vm ∧ U.heap = h0) (fun _ _ _ _ _ => True) (fun _ U o U' => ∃ v L, o = .returned v ∧ (QQ_rma_4 Z b0 sa em ke de kd ks vs h0 n0) v U'.heap L ∧ FrameEnd U o U' L ({ frames := 5, cells := 4, slots := 65551, locals := 80 } : Room).cells ({ frames := 5, cells := 4, slots := 65551, locals := 80 } : Room).slots) := by
  refine MetFree.of_bodySF (plainFor_of_name pn_com_example_loomwire_loomwire_transport_MessageBuffer) hisR ?_
  intro p e s m args below meth c s₁ Bd hml0 hP hK
  obtain ⟨rfl, hZ, hh⟩ := hP
  have hx := Bd.exec
  have hby := Bd.bytes
  have hlk : meth.locks = false := BodyLoose.notSynchronized Bd
  have hml : c.maxLocals = 4 := hml0
  have hown : s.vm.findClass "com/example/loomwire/loomwire/transport/MessageBuffer" = some m.cls := findClass_of_methodNamed Bd.named
  have hnm := (name_of_methodNamed Bd.named Bd.method).1
  have X0 : Stand p l e ({ frames := 5, cells := 4, slots := 65551, locals := 80 } : Room) s m #[(.ref b0), (.ref sa)] below meth c s₁ [] 0 0 := Stand.of_body Bd
  have e0 : s₁.heap = h0 := by rw [← hh, Bd.state]; rfl
  have N0 := Fr.nil n0
  show own_G p.tables e below s (QQ_rma_4 Z b0 sa em ke de kd ks vs h0 n0) ({ frames := 5, cells := 4, slots := 65551, locals := 80 } : Room).cells ({ frames := 5, cells := 4, slots := 65551, locals := 80 } : Room).slots (s₁.setTop (entryFrame m #[(.ref b0), (.ref sa)] 4))
  refine oS (B := s₁.setTop (mkF m 0 #[rv b0, rv sa, .unset, .unset] [])) (fun t k => castTop (ef_rma_4 m b0 sa) k) ?_
  have V_em := BB.2.2.1.ext O0.2
  have E_em := BB.2.1.ext O0.2
  have V_de := BB.2.2.2.2.ext O0.2
  have K0 := Keep.refl h0 [b0]
  refine oS (B := s₁.setTop (mkF m 1 #[rv b0, rv sa, .unset, .unset] [(.int 0)])) (fun t k => XS.iconst X0.here hx rfl (hb hby d3_0) k) ?_
  refine oS (B := s₁.setTop (mkF m 2 #[rv b0, rv sa, iv 0, .unset] [])) (fun t k => XS.istoreN X0.here hx rfl (hb hby d3_1) rfl (l' := #[rv b0, rv sa, iv 0, .unset]) rfl k) ?_
  refine oS (B := s₁.setTop (mkF m 3 #[rv b0, rv sa, iv 0, .unset] [(.int 0)])) (fun t k => XS.iloadN X0.here hx rfl (hb hby d3_2) rfl k) ?_
  refine oS (B := s₁.setTop (mkF m 4 #[rv b0, rv sa, iv 0, .unset] [(.ref sa), (.int 0)])) (fun t k => XS.aloadN X0.here hx rfl (hb hby d3_3) rfl rfl k) ?_
  have Vo_1 := V_sa
  obtain ⟨cl_1, Ar_1, q_1, S_1, M_1, H_1, G_1⟩ := Vo_1
  refine oS (B := s₁.setTop (mkF m 5 #[rv b0, rv sa, iv 0, .unset] [(.int 4), (.int 0)])) (fun t k => X0.arraylength hx (by rw [e0]; exact Ar_1.1) (State.isArrayOf_alike hZ.alike Ar_1.2.1) (g := (mkF m 4 #[rv b0, rv sa, iv 0, .unset] [(.ref sa), (.int 0)])) rfl rfl (hb hby d3_4) t (by rw [len_of S_1 M_1]; exact k)) ?_
  refine oS (B := s₁.setTop (mkF m 8 #[rv b0, rv sa, iv 0, .unset] [])) (fun t k => XS.icmpNo X0.here hx rfl (hb hby d3_5) rfl (tlt (by decide)).2.1 k) ?_
  refine oS (B := s₁.setTop (mkF m 9 #[rv b0, rv sa, iv 0, .unset] [(.ref b0)])) (fun t k => XS.aloadN X0.here hx rfl (hb hby d3_8) rfl rfl k) ?_
  obtain ⟨T2, X2, e2, st2⟩ := getF X0 hx hZ hown (host := "") (Or.inl (ow hw 28 rfl)) Via.refl e0 F_lastLength_b0 (g := (mkF m 9 #[rv b0, rv sa, iv 0, .unset] [(.ref b0)])) rfl rfl (hb hby d3_9)
  refine oS (B := T2.setTop (mkF m 12 #[rv b0, rv sa, iv 0, .unset] [(.int 0)])) (fun t k => st2 t k) ?_
  refine oS (B := T2.setTop (mkF m 14 #[rv b0, rv sa, iv 0, .unset] [(.int 65536), (.int 0)])) (fun t k => X2.ldcInt hx hown (mvT hZ (ow hw 54 rfl)) (g := (mkF m 12 #[rv b0, rv sa, iv 0, .unset] [(.int 0)])) rfl (hb hby d3_12) t k) ?_
  refine oS (B := T2.setTop (mkF m 61 #[rv b0, rv sa, iv 0, .unset] [])) (fun t k => XS.icmpYes X2.here hx rfl (pc0 := 14) (pc' := 61) rfl (hb hby d3_14) rfl (feq (by decide)).2 (by decide) (by decide) k) ?_
  refine oS (B := T2.setTop (mkF m 62 #[rv b0, rv sa, iv 0, .unset] [(.ref sa)])) (fun t k => XS.aloadN X2.here hx rfl (hb hby d3_61) rfl rfl k) ?_
  have Vo_3 := V_sa
  obtain ⟨cl_3, Ar_3, q_3, S_3, M_3, H_3, G_3⟩ := Vo_3
  refine oS (B := T2.setTop (mkF m 63 #[rv b0, rv sa, iv 0, .unset] [(.int 4)])) (fun t k => X2.arraylength hx (by rw [e2]; exact Ar_3.1) (State.isArrayOf_alike hZ.alike Ar_3.2.1) (g := (mkF m 62 #[rv b0, rv sa, iv 0, .unset] [(.ref sa)])) rfl rfl (hb hby d3_62) t (by rw [len_of S_3 M_3]; exact k)) ?_
  refine oS (B := T2.setTop (mkF m 64 #[rv b0, rv sa, iv 0, .unset] [(.int 0), (.int 4)])) (fun t k => XS.iloadN X2.here hx rfl (hb hby d3_63) rfl k) ?_
  refine oS (B := T2.setTop (mkF m 65 #[rv b0, rv sa, iv 0, .unset] [(.int 4)])) (fun t k => XS.isub X2.here hx rfl (hb hby d3_64) rfl k) ?_
  refine oS (B := T2.setTop (mkF m 67 #[rv b0, rv sa, iv 0, .unset] [(.int 65536), (.int 4)])) (fun t k => X2.ldcInt hx hown (mvT hZ (ow hw 54 rfl)) (g := (mkF m 65 #[rv b0, rv sa, iv 0, .unset] [(.int 4)])) rfl (hb hby d3_65) t k) ?_
  refine oS (B := T2.setTop (mkF m 68 #[rv b0, rv sa, iv 0, .unset] [(.ref b0), (.int 65536), (.int 4)])) (fun t k => XS.aloadN X2.here hx rfl (hb hby d3_67) rfl rfl k) ?_
  obtain ⟨T4, X4, e4, st4⟩ := getF X2 hx hZ hown (host := "") (Or.inl (ow hw 28 rfl)) Via.refl e2 F_lastLength_b0 (g := (mkF m 68 #[rv b0, rv sa, iv 0, .unset] [(.ref b0), (.int 65536), (.int 4)])) rfl rfl (hb hby d3_68)
  refine oS (B := T4.setTop (mkF m 71 #[rv b0, rv sa, iv 0, .unset] [(.int 0), (.int 65536), (.int 4)])) (fun t k => st4 t k) ?_
  refine oS (B := T4.setTop (mkF m 72 #[rv b0, rv sa, iv 0, .unset] [(.int 65536), (.int 4)])) (fun t k => XS.isub X4.here hx rfl (hb hby d3_71) rfl k) ?_
  obtain ⟨_, _, ⟨T5, L5, k5, n5⟩, -, X5, ⟨Lc5, hQ5, l5, y5, z5⟩, st5⟩ := Jvm.LawKit.callS X4 hx (y := (⟨"java/lang/Math", "min", "(II)I"⟩ : MethodName)) hown (mvT hZ (ow hw 55 rfl)) (mvT hZ (ow hw 56 rfl)) (mvT hZ (ow hw 57 rfl)) (mvT hZ (ow hw 58 rfl)) (by decide) (backOf (W := 0) (rm8 l Z a0 hw [] (4 : Int32) (65536 : Int32)  h0 n0 Z0 ) hZ (ow hw 58 rfl) (ow hw 57 rfl) (by decide) (by decide)) (g := (mkF m 72 #[rv b0, rv sa, iv 0, .unset] [(.int 65536), (.int 4)])) rfl (by rw [hml]; rfl) (argsL := [(.int 4), (.int 65536)]) (rest := []) (lenOf pd_1 rfl) rfl (by show 2 * 0 + _ ≤ _; exact Nat.le_of_eq rfl) (hb hby d3_72) (fun _ _ => ⟨rfl, e4, (by decide : 0 + 0 ≤ _), (by decide : 0 + 0 ≤ _)⟩)
  dsimp only [Pt.U, Pt.locs, Pt.cells, Pt.slots] at X5 l5 y5 z5 st5 hQ5
  subst l5 y5 z5
  obtain ⟨rfl, N5q, e5⟩ := hQ5
  have N0 := Fr.app N0 N5q
  refine oS (B := T5.setTop (mkF m 75 #[rv b0, rv sa, iv 0, .unset] [(.int (own_min (4 : Int32) (65536 : Int32)))])) (fun t k => st5 t k) ?_
  have hlit5 : (own_min (4 : Int32) (65536 : Int32)) = (4 : Int32) := by decide
  rw [hlit5]
  refine oS (B := T5.setTop (mkF m 76 #[rv b0, rv sa, iv 0, iv 4] [])) (fun t k => XS.istoreN X5.here hx rfl (hb hby d3_75) rfl (l' := #[rv b0, rv sa, iv 0, iv 4]) rfl k) ?_
  refine oS (B := T5.setTop (mkF m 77 #[rv b0, rv sa, iv 0, iv 4] [(.ref b0)])) (fun t k => XS.aloadN X5.here hx rfl (hb hby d3_76) rfl rfl k) ?_
  obtain ⟨T6, X6, e6, st6⟩ := getF X5 hx hZ hown (host := "") (Or.inl (ow hw 28 rfl)) Via.refl e5 F_lastLength_b0 (g := (mkF m 77 #[rv b0, rv sa, iv 0, iv 4] [(.ref b0)])) rfl rfl (hb hby d3_77)
  refine oS (B := T6.setTop (mkF m 80 #[rv b0, rv sa, iv 0, iv 4] [(.int 0)])) (fun t k => st6 t k) ?_
  refine oS (B := T6.setTop (mkF m 81 #[rv b0, rv sa, iv 0, iv 4] [(.int 4), (.int 0)])) (fun t k => XS.iloadN X6.here hx rfl (hb hby d3_80) rfl k) ?_
  refine oS (B := T6.setTop (mkF m 82 #[rv b0, rv sa, iv 0, iv 4] [(.int 4)])) (fun t k => XS.iadd X6.here hx rfl (hb hby d3_81) rfl k) ?_
  refine oS (B := T6.setTop (mkF m 83 #[rv b0, rv sa, iv 0, iv 4] [(.ref b0), (.int 4)])) (fun t k => XS.aloadN X6.here hx rfl (hb hby d3_82) rfl rfl k) ?_
  obtain ⟨T7, X7, e7, st7⟩ := getF X6 hx hZ hown (host := "") (Or.inl (ow hw 12 rfl)) Via.refl e6 F_last_b0 (g := (mkF m 83 #[rv b0, rv sa, iv 0, iv 4] [(.ref b0), (.int 4)])) rfl rfl (hb hby d3_83)
  refine oS (B := T7.setTop (mkF m 86 #[rv b0, rv sa, iv 0, iv 4] [(.ref em), (.int 4)])) (fun t k => st7 t k) ?_
  have Vo_8 := V_em
  obtain ⟨cl_8, Ar_8, q_8, S_8, M_8, H_8, G_8⟩ := Vo_8
  refine oS (B := T7.setTop (mkF m 87 #[rv b0, rv sa, iv 0, iv 4] [(.int 0), (.int 4)])) (fun t k => X7.arraylength hx (by rw [e7]; exact Ar_8.1) (State.isArrayOf_alike hZ.alike Ar_8.2.1) (g := (mkF m 86 #[rv b0, rv sa, iv 0, iv 4] [(.ref em), (.int 4)])) rfl rfl (hb hby d3_86) t (by rw [len_of S_8 M_8]; exact k)) ?_
  refine oS (B := T7.setTop (mkF m 90 #[rv b0, rv sa, iv 0, iv 4] [])) (fun t k => XS.icmpNo X7.here hx rfl (hb hby d3_87) rfl (tlt (by decide)).2.2.2 k) ?_
  refine oS (B := T7.setTop (mkF m 91 #[rv b0, rv sa, iv 0, iv 4] [(.ref b0)])) (fun t k => XS.aloadN X7.here hx rfl (hb hby d3_90) rfl rfl k) ?_
  refine oS (B := T7.setTop (mkF m 92 #[rv b0, rv sa, iv 0, iv 4] [(.ref b0), (.ref b0)])) (fun t k => XS.aloadN X7.here hx rfl (hb hby d3_91) rfl rfl k) ?_
  obtain ⟨T9, X9, e9, st9⟩ := getF X7 hx hZ hown (host := "") (Or.inl (ow hw 12 rfl)) Via.refl e7 F_last_b0 (g := (mkF m 92 #[rv b0, rv sa, iv 0, iv 4] [(.ref b0), (.ref b0)])) rfl rfl (hb hby d3_92)
  refine oS (B := T9.setTop (mkF m 95 #[rv b0, rv sa, iv 0, iv 4] [(.ref em), (.ref b0)])) (fun t k => st9 t k) ?_
  refine oS (B := T9.setTop (mkF m 96 #[rv b0, rv sa, iv 0, iv 4] [(.ref b0), (.ref em), (.ref b0)])) (fun t k => XS.aloadN X9.here hx rfl (hb hby d3_95) rfl rfl k) ?_
  obtain ⟨T10, X10, e10, st10⟩ := getF X9 hx hZ hown (host := "") (Or.inl (ow hw 28 rfl)) Via.refl e9 F_lastLength_b0 (g := (mkF m 96 #[rv b0, rv sa, iv 0, iv 4] [(.ref b0), (.ref em), (.ref b0)])) rfl rfl (hb hby d3_96)
  refine oS (B := T10.setTop (mkF m 99 #[rv b0, rv sa, iv 0, iv 4] [(.int 0), (.ref em), (.ref b0)])) (fun t k => st10 t k) ?_
  refine oS (B := T10.setTop (mkF m 100 #[rv b0, rv sa, iv 0, iv 4] [(.int 4), (.int 0), (.ref em), (.ref b0)])) (fun t k => XS.iloadN X10.here hx rfl (hb hby d3_99) rfl k) ?_
  refine oS (B := T10.setTop (mkF m 101 #[rv b0, rv sa, iv 0, iv 4] [(.int 4), (.ref em), (.ref b0)])) (fun t k => XS.iadd X10.here hx rfl (hb hby d3_100) rfl k) ?_
  obtain ⟨_, _, ⟨T11, L11, k11, n11⟩, -, X11, ⟨Lc11, hQ11, l11, y11, z11⟩, st11⟩ := Jvm.LawKit.callS X10 hx (y := (⟨"com/example/loomwire/loomwire/transport/MessageBuffer", "chunkCapacity", "(I)I"⟩ : MethodName)) hown (mvT hZ (ow hw 59 rfl)) (mvT hZ (ow hw 60 rfl)) (mvT hZ (ow hw 3 rfl)) (mvT hZ (ow hw 61 rfl)) (by decide) (backOf (W := 2) (rm9_4 l Z a0 hw []   h0 n0 Z0 ) hZ (ow hw 61 rfl) (ow hw 3 rfl) (by decide) (by decide)) (g := (mkF m 101 #[rv b0, rv sa, iv 0, iv 4] [(.int 4), (.ref em), (.ref b0)])) rfl (by rw [hml]; rfl) (argsL := [(.int 4)]) (rest := [(.ref em), (.ref b0)]) (lenOf pd_0 rfl) rfl (by show 2 * 0 + _ ≤ _; exact Nat.le_of_eq rfl) (hb hby d3_101) (fun _ _ => ⟨rfl, e10, (by decide : 0 + 0 ≤ _), (by decide : 0 + 0 ≤ _)⟩)
  dsimp only [Pt.U, Pt.locs, Pt.cells, Pt.slots] at X11 l11 y11 z11 st11 hQ11
  subst l11 y11 z11
  obtain ⟨rfl, N11q, e11⟩ := hQ11
  have N0 := Fr.app N0 N11q
  refine oS (B := T11.setTop (mkF m 104 #[rv b0, rv sa, iv 0, iv 4] [(.int 4), (.ref em), (.ref b0)])) (fun t k => st11 t k) ?_
  have lt_b0 := E_b0.lt
  have lt_sa := V_sa.lt
  have KZ := K0
  obtain ⟨_, _, ⟨T12, L12, k12, n12⟩, -, X12, ⟨Lc12, hQ12, l12, y12, z12⟩, st12⟩ := Jvm.LawKit.callS X11 hx (y := (⟨"java/util/Arrays", "copyOf", "([BI)[B"⟩ : MethodName)) hown (mvT hZ (ow hw 40 rfl)) (mvT hZ (ow hw 41 rfl)) (mvT hZ (ow hw 42 rfl)) (mvT hZ (ow hw 43 rfl)) (by decide) (backOf (W := 1) (rmg_4 l Z a0 hw []  em ke de kd h0 n0 Z0 BB O0) hZ (ow hw 43 rfl) (ow hw 42 rfl) (by decide) (by decide)) (g := (mkF m 104 #[rv b0, rv sa, iv 0, iv 4] [(.int 4), (.ref em), (.ref b0)])) rfl (by rw [hml]; rfl) (argsL := [(.ref em), (.int 4)]) (rest := [(.ref b0)]) (lenOf pd_6 rfl) rfl (by show 2 * 0 + _ ≤ _; exact Nat.le_of_eq rfl) (hb hby d3_104) (fun _ _ => ⟨rfl, e11, (by decide : 0 + 1 ≤ _), (by decide : 0 + 4 ≤ _)⟩)
  dsimp only [Pt.U, Pt.locs, Pt.cells, Pt.slots] at X12 l12 y12 z12 st12 hQ12
  subst l12 y12 z12
  obtain ⟨la, kla, vla, rfl, N12q, K12, g_la, sz'_la, E_la, V_la, hlla⟩ := hQ12
  have N0 := Fr.app N0 N12q
  have E_b0 := E_b0.keep K12
  have F_full_b0 := F_full_b0.keep K12 nin0
  have F_last_b0 := F_last_b0.keep K12 nin0
  have F_lastLength_b0 := F_lastLength_b0.keep K12 nin0
  have F_length_b0 := F_length_b0.keep K12 nin0
  have V_sa := V_sa.keep K12 nin0
  have E_em := E_em.keep K12
  have V_em := V_em.keep K12 nin0
  have V_de := V_de.keep K12 nin0
  have Z0 := Nat.le_trans Z0 K12.1
  have O0 := O0.keep K12 all0
  have K0 := K0.trans K12 all0
  have ne_b0_la : b0 ≠ la := Nat.ne_of_lt (Nat.lt_of_lt_of_le lt_b0 sz'_la)
  have ne_sa_la : sa ≠ la := Nat.ne_of_lt (Nat.lt_of_lt_of_le lt_sa sz'_la)
  have sz_la : h0.size ≤ la := Nat.le_trans KZ.1 sz'_la
  refine oS (B := T12.setTop (mkF m 107 #[rv b0, rv sa, iv 0, iv 4] [(.ref la), (.ref b0)])) (fun t k => st12 t k) ?_
  obtain ⟨T13, h13, X13, e13, W13, st13⟩ := putF X12 hx hZ hown (host := "") (Or.inl (ow hw 12 rfl)) Via.refl rfl F_last_b0 E_b0 (Or.inl (ow hw 13 rfl)) (ow hw 2 rfl) (ty := (.array .byte)) (by decide) rfl rfl (g := (mkF m 107 #[rv b0, rv sa, iv 0, iv 4] [(.ref la), (.ref b0)])) rfl rfl (hb hby d3_107)
  have E_b0 := E_b0.wr W13
  have F_full_b0 := F_full_b0.other W13 (Or.inr (slot_ne (Or.inl (ow hw 27 rfl)) (Or.inl (ow hw 13 rfl)) (by decide) (t := (.object "java/util/List")) (t' := (.array .byte)) (by decide) (by decide)))
  have F_last_b0 := F_last_b0.same W13
  have F_lastLength_b0 := F_lastLength_b0.other W13 (Or.inr (slot_ne (Or.inl (ow hw 29 rfl)) (Or.inl (ow hw 13 rfl)) (by decide) (t := .int) (t' := (.array .byte)) (by decide) (by decide)))
  have F_length_b0 := F_length_b0.other W13 (Or.inr (slot_ne (Or.inl (ow hw 20 rfl)) (Or.inl (ow hw 13 rfl)) (by decide) (t := .int) (t' := (.array .byte)) (by decide) (by decide)))
  have V_sa := V_sa.other W13 (Ne.symm ne_b0_sa)
  have E_em := E_em.wr W13
  have V_em := V_em.other W13 (ne_exa E_em E_b0 (by decide))
  have V_de := V_de.other W13 (O0.ne BB.2.2.2.2.lt g_b0)
  have E_la := E_la.wr W13
  have V_la := V_la.other W13 (Ne.symm ne_b0_la)
  have Z0 := Nat.le_trans Z0 (Keep.of_wr W13).1
  have K0 := K0.wr W13 (Or.inl (List.mem_of_getElem? (i := 0) rfl))
  have N0 := Fr.snoc X13 N0 g_b0
  have O0 := O0.wr W13 g_b0
  refine oS (B := T13.setTop (mkF m 110 #[rv b0, rv sa, iv 0, iv 4] [])) (fun t k => st13 t k) ?_
  refine oS (B := T13.setTop (mkF m 111 #[rv b0, rv sa, iv 0, iv 4] [(.ref sa)])) (fun t k => XS.aloadN X13.here hx rfl (hb hby d3_110) rfl rfl k) ?_
  refine oS (B := T13.setTop (mkF m 112 #[rv b0, rv sa, iv 0, iv 4] [(.int 0), (.ref sa)])) (fun t k => XS.iloadN X13.here hx rfl (hb hby d3_111) rfl k) ?_
  refine oS (B := T13.setTop (mkF m 113 #[rv b0, rv sa, iv 0, iv 4] [(.ref b0), (.int 0), (.ref sa)])) (fun t k => XS.aloadN X13.here hx rfl (hb hby d3_112) rfl rfl k) ?_
  obtain ⟨T14, X14, e14, st14⟩ := getF X13 hx hZ hown (host := "") (Or.inl (ow hw 12 rfl)) Via.refl e13 F_last_b0 (g := (mkF m 113 #[rv b0, rv sa, iv 0, iv 4] [(.ref b0), (.int 0), (.ref sa)])) rfl rfl (hb hby d3_113)
  refine oS (B := T14.setTop (mkF m 116 #[rv b0, rv sa, iv 0, iv 4] [(.ref la), (.int 0), (.ref sa)])) (fun t k => st14 t k) ?_
  refine oS (B := T14.setTop (mkF m 117 #[rv b0, rv sa, iv 0, iv 4] [(.ref b0), (.ref la), (.int 0), (.ref sa)])) (fun t k => XS.aloadN X14.here hx rfl (hb hby d3_116) rfl rfl k) ?_
  obtain ⟨T15, X15, e15, st15⟩ := getF X14 hx hZ hown (host := "") (Or.inl (ow hw 28 rfl)) Via.refl e14 F_lastLength_b0 (g := (mkF m 117 #[rv b0, rv sa, iv 0, iv 4] [(.ref b0), (.ref la), (.int 0), (.ref sa)])) rfl rfl (hb hby d3_117)
  refine oS (B := T15.setTop (mkF m 120 #[rv b0, rv sa, iv 0, iv 4] [(.int 0), (.ref la), (.int 0), (.ref sa)])) (fun t k => st15 t k) ?_
  refine oS (B := T15.setTop (mkF m 121 #[rv b0, rv sa, iv 0, iv 4] [(.int 4), (.int 0), (.ref la), (.int 0), (.ref sa)])) (fun t k => XS.iloadN X15.here hx rfl (hb hby d3_120) rfl k) ?_
  obtain ⟨T16, h16, L16, X16, e16, N16q, K16, VC16, st16⟩ := cpA X15 hx hZ hown (ow hw 76 rfl) (ow hw 75 rfl) (ow hw 73 rfl) (ow hw 74 rfl) e15 V_sa V_la (Or.inl ⟨rfl, rfl⟩) (by decide) (by decide) (by decide) (by decide) (by decide) rfl (by rw [hlla]; decide) N0 g_la (g := (mkF m 121 #[rv b0, rv sa, iv 0, iv 4] [(.int 4), (.int 0), (.ref la), (.int 0), (.ref sa)])) rfl (by rw [hml]; rfl) rfl (hb hby d3_121) (by decide) (W := 0) (by show 2 * 0 + _ ≤ _; exact Nat.le_of_eq rfl) (by decide)
  have E_b0 := E_b0.keep K16
  have F_full_b0 := F_full_b0.keep K16 (ninS ne_b0_la nin0)
  have F_last_b0 := F_last_b0.keep K16 (ninS ne_b0_la nin0)
  have F_lastLength_b0 := F_lastLength_b0.keep K16 (ninS ne_b0_la nin0)
  have F_length_b0 := F_length_b0.keep K16 (ninS ne_b0_la nin0)
  have V_sa := V_sa.keep K16 (ninS ne_sa_la nin0)
  have E_em := E_em.keep K16
  have V_em := V_em.keep K16 (ninS (O0.ne BB.2.2.1.lt g_la) nin0)
  have V_de := V_de.keep K16 (ninS (O0.ne BB.2.2.2.2.lt g_la) nin0)
  have E_la := E_la.keep K16
  have Z0 := Nat.le_trans Z0 K16.1
  have O0 := O0.keep K16 (allS g_la all0)
  have K0 := K0.trans K16 (allS (Or.inr sz_la) all0)
  have N0 := N16q
  have V_la := VC16
  refine oS (B := T16.setTop (mkF m 124 #[rv b0, rv sa, iv 0, iv 4] [])) (fun t k => st16 t k) ?_
  refine oS (B := T16.setTop (mkF m 125 #[rv b0, rv sa, iv 0, iv 4] [(.ref b0)])) (fun t k => XS.aloadN X16.here hx rfl (hb hby d3_124) rfl rfl k) ?_
  refine oS (B := T16.setTop (mkF m 126 #[rv b0, rv sa, iv 0, iv 4] [(.ref b0), (.ref b0)])) (fun t k => XS.dup X16.here hx rfl (hb hby d3_125) rfl rfl k) ?_
  obtain ⟨T17, X17, e17, st17⟩ := getF X16 hx hZ hown (host := "") (Or.inl (ow hw 28 rfl)) Via.refl e16 F_lastLength_b0 (g := (mkF m 126 #[rv b0, rv sa, iv 0, iv 4] [(.ref b0), (.ref b0)])) rfl rfl (hb hby d3_126)
  refine oS (B := T17.setTop (mkF m 129 #[rv b0, rv sa, iv 0, iv 4] [(.int 0), (.ref b0)])) (fun t k => st17 t k) ?_
  refine oS (B := T17.setTop (mkF m 130 #[rv b0, rv sa, iv 0, iv 4] [(.int 4), (.int 0), (.ref b0)])) (fun t k => XS.iloadN X17.here hx rfl (hb hby d3_129) rfl k) ?_
  refine oS (B := T17.setTop (mkF m 131 #[rv b0, rv sa, iv 0, iv 4] [(.int 4), (.ref b0)])) (fun t k => XS.iadd X17.here hx rfl (hb hby d3_130) rfl k) ?_
  obtain ⟨T18, h18, X18, e18, W18, st18⟩ := putF X17 hx hZ hown (host := "") (Or.inl (ow hw 28 rfl)) Via.refl e17 F_lastLength_b0 E_b0 (Or.inl (ow hw 29 rfl)) (ow hw 2 rfl) (ty := .int) (by decide) rfl rfl (g := (mkF m 131 #[rv b0, rv sa, iv 0, iv 4] [(.int 4), (.ref b0)])) rfl rfl (hb hby d3_131)
  have E_b0 := E_b0.wr W18
  have F_full_b0 := F_full_b0.other W18 (Or.inr (slot_ne (Or.inl (ow hw 27 rfl)) (Or.inl (ow hw 29 rfl)) (by decide) (t := (.object "java/util/List")) (t' := .int) (by decide) (by decide)))
  have F_last_b0 := F_last_b0.other W18 (Or.inr (slot_ne (Or.inl (ow hw 13 rfl)) (Or.inl (ow hw 29 rfl)) (by decide) (t := (.array .byte)) (t' := .int) (by decide) (by decide)))
  have F_lastLength_b0 := F_lastLength_b0.same W18
  have F_length_b0 := F_length_b0.other W18 (Or.inr (slot_ne (Or.inl (ow hw 20 rfl)) (Or.inl (ow hw 29 rfl)) (by decide) (t := .int) (t' := .int) (by decide) (by decide)))
  have V_sa := V_sa.other W18 (Ne.symm ne_b0_sa)
  have E_em := E_em.wr W18
  have V_em := V_em.other W18 (ne_exa E_em E_b0 (by decide))
  have V_de := V_de.other W18 (O0.ne BB.2.2.2.2.lt g_b0)
  have E_la := E_la.wr W18
  have V_la := V_la.other W18 (Ne.symm ne_b0_la)
  have Z0 := Nat.le_trans Z0 (Keep.of_wr W18).1
  have K0 := K0.wr W18 (Or.inl (List.mem_of_getElem? (i := 0) rfl))
  have N0 := Fr.snoc X18 N0 g_b0
  have O0 := O0.wr W18 g_b0
  refine oS (B := T18.setTop (mkF m 134 #[rv b0, rv sa, iv 0, iv 4] [])) (fun t k => st18 t k) ?_
  refine oS (B := T18.setTop (mkF m 135 #[rv b0, rv sa, iv 0, iv 4] [(.int 0)])) (fun t k => XS.iloadN X18.here hx rfl (hb hby d3_134) rfl k) ?_
  refine oS (B := T18.setTop (mkF m 136 #[rv b0, rv sa, iv 0, iv 4] [(.int 4), (.int 0)])) (fun t k => XS.iloadN X18.here hx rfl (hb hby d3_135) rfl k) ?_
  refine oS (B := T18.setTop (mkF m 137 #[rv b0, rv sa, iv 0, iv 4] [(.int 4)])) (fun t k => XS.iadd X18.here hx rfl (hb hby d3_136) rfl k) ?_
  refine oS (B := T18.setTop (mkF m 138 #[rv b0, rv sa, iv 4, iv 4] [])) (fun t k => XS.istoreN X18.here hx rfl (hb hby d3_137) rfl (l' := #[rv b0, rv sa, iv 4, iv 4]) rfl k) ?_
  refine oS (B := T18.setTop (mkF m 2 #[rv b0, rv sa, iv 4, iv 4] [])) (fun t k => XS.goto X18.here hx rfl (pc0 := 138) (pc' := 2) rfl (hb hby d3_138) (by decide) (by decide) k) ?_
  refine oS (B := T18.setTop (mkF m 3 #[rv b0, rv sa, iv 4, iv 4] [(.int 4)])) (fun t k => XS.iloadN X18.here hx rfl (hb hby d3_2) rfl k) ?_
  refine oS (B := T18.setTop (mkF m 4 #[rv b0, rv sa, iv 4, iv 4] [(.ref sa), (.int 4)])) (fun t k => XS.aloadN X18.here hx rfl (hb hby d3_3) rfl rfl k) ?_
  have Vo_19 := V_sa
  obtain ⟨cl_19, Ar_19, q_19, S_19, M_19, H_19, G_19⟩ := Vo_19
  refine oS (B := T18.setTop (mkF m 5 #[rv b0, rv sa, iv 4, iv 4] [(.int 4), (.int 4)])) (fun t k => X18.arraylength hx (by rw [e18]; exact Ar_19.1) (State.isArrayOf_alike hZ.alike Ar_19.2.1) (g := (mkF m 4 #[rv b0, rv sa, iv 4, iv 4] [(.ref sa), (.int 4)])) rfl rfl (hb hby d3_4) t (by rw [len_of S_19 M_19]; exact k)) ?_
  refine oS (B := T18.setTop (mkF m 141 #[rv b0, rv sa, iv 4, iv 4] [])) (fun t k => XS.icmpYes X18.here hx rfl (pc0 := 5) (pc' := 141) rfl (hb hby d3_5) rfl (flt (by decide)).2.1 (by decide) (by decide) k) ?_
  refine oS (B := T18.setTop (mkF m 142 #[rv b0, rv sa, iv 4, iv 4] [(.ref b0)])) (fun t k => XS.aloadN X18.here hx rfl (hb hby d3_141) rfl rfl k) ?_
  refine oS (B := T18.setTop (mkF m 143 #[rv b0, rv sa, iv 4, iv 4] [(.ref b0), (.ref b0)])) (fun t k => XS.dup X18.here hx rfl (hb hby d3_142) rfl rfl k) ?_
  obtain ⟨T20, X20, e20, st20⟩ := getF X18 hx hZ hown (host := "") (Or.inl (ow hw 19 rfl)) Via.refl e18 F_length_b0 (g := (mkF m 143 #[rv b0, rv sa, iv 4, iv 4] [(.ref b0), (.ref b0)])) rfl rfl (hb hby d3_143)
  refine oS (B := T20.setTop (mkF m 146 #[rv b0, rv sa, iv 4, iv 4] [(.int 0), (.ref b0)])) (fun t k => st20 t k) ?_
  refine oS (B := T20.setTop (mkF m 147 #[rv b0, rv sa, iv 4, iv 4] [(.ref sa), (.int 0), (.ref b0)])) (fun t k => XS.aloadN X20.here hx rfl (hb hby d3_146) rfl rfl k) ?_
  have Vo_21 := V_sa
  obtain ⟨cl_21, Ar_21, q_21, S_21, M_21, H_21, G_21⟩ := Vo_21
  refine oS (B := T20.setTop (mkF m 148 #[rv b0, rv sa, iv 4, iv 4] [(.int 4), (.int 0), (.ref b0)])) (fun t k => X20.arraylength hx (by rw [e20]; exact Ar_21.1) (State.isArrayOf_alike hZ.alike Ar_21.2.1) (g := (mkF m 147 #[rv b0, rv sa, iv 4, iv 4] [(.ref sa), (.int 0), (.ref b0)])) rfl rfl (hb hby d3_147) t (by rw [len_of S_21 M_21]; exact k)) ?_
  refine oS (B := T20.setTop (mkF m 149 #[rv b0, rv sa, iv 4, iv 4] [(.int 4), (.ref b0)])) (fun t k => XS.iadd X20.here hx rfl (hb hby d3_148) rfl k) ?_
  obtain ⟨T22, h22, X22, e22, W22, st22⟩ := putF X20 hx hZ hown (host := "") (Or.inl (ow hw 19 rfl)) Via.refl e20 F_length_b0 E_b0 (Or.inl (ow hw 20 rfl)) (ow hw 2 rfl) (ty := .int) (by decide) rfl rfl (g := (mkF m 149 #[rv b0, rv sa, iv 4, iv 4] [(.int 4), (.ref b0)])) rfl rfl (hb hby d3_149)
  have E_b0 := E_b0.wr W22
  have F_full_b0 := F_full_b0.other W22 (Or.inr (slot_ne (Or.inl (ow hw 27 rfl)) (Or.inl (ow hw 20 rfl)) (by decide) (t := (.object "java/util/List")) (t' := .int) (by decide) (by decide)))
  have F_last_b0 := F_last_b0.other W22 (Or.inr (slot_ne (Or.inl (ow hw 13 rfl)) (Or.inl (ow hw 20 rfl)) (by decide) (t := (.array .byte)) (t' := .int) (by decide) (by decide)))
  have F_lastLength_b0 := F_lastLength_b0.other W22 (Or.inr (slot_ne (Or.inl (ow hw 29 rfl)) (Or.inl (ow hw 20 rfl)) (by decide) (t := .int) (t' := .int) (by decide) (by decide)))
  have F_length_b0 := F_length_b0.same W22
  have V_sa := V_sa.other W22 (Ne.symm ne_b0_sa)
  have E_em := E_em.wr W22
  have V_em := V_em.other W22 (ne_exa E_em E_b0 (by decide))
  have V_de := V_de.other W22 (O0.ne BB.2.2.2.2.lt g_b0)
  have E_la := E_la.wr W22
  have V_la := V_la.other W22 (Ne.symm ne_b0_la)
  have Z0 := Nat.le_trans Z0 (Keep.of_wr W22).1
  have K0 := K0.wr W22 (Or.inl (List.mem_of_getElem? (i := 0) rfl))
  have N0 := Fr.snoc X22 N0 g_b0
  have O0 := O0.wr W22 g_b0
  refine oS (B := T22.setTop (mkF m 152 #[rv b0, rv sa, iv 4, iv 4] [])) (fun t k => st22 t k) ?_
  exact own_retV X22 hx hlk Bd.returns (hb hby d3_152) (by decide) (by decide) (by rw [e22]; exact ⟨_, _, _, _, rfl, N0, K0, F_full_b0, F_last_b0, F_lastLength_b0, F_length_b0⟩)
theorem ef_rma_5 (m : MethodId) (x0 : Addr) (x1 : Addr) : entryFrame m #[(.ref x0), (.ref x1)] 4 = mkF m 0 #[rv x0, rv x1, .unset, .unset] [] := by first | (simp [entryFrame, mkF, argsToLocals, Value.category]; done) | rfl
def QQ_rma_5 (Z : State) (b0 : Addr) (sa : Addr) (em : Addr) (ke : ClassId) (de : Addr) (kd : ClassId) (ks : ClassId) (vs : List Value) (h0 : Heap) (n0 : Nat) (v : Option Value) (h : Heap) (L : List Loc) : Prop := ∃ vf vl vll vlen : Value, v = none ∧ Fr n0 L ∧ Keep h0 h [b0] ∧ Fld Z h b0 "com/example/loomwire/loomwire/transport/MessageBuffer" "full" "Ljava/util/List;" vf ∧ Fld Z h b0 "com/example/loomwire/loomwire/transport/MessageBuffer" "last" "[B" vl ∧ Fld Z h b0 "com/example/loomwire/loomwire/transport/MessageBuffer" "lastLength" "I" vll ∧ Fld Z h b0 "com/example/loomwire/loomwire/transport/MessageBuffer" "length" "I" vlen
set_option maxRecDepth 65536 in
set_option maxHeartbeats 40000000 in
theorem rma_5 (l : Launch) (Z : State) (a0 : Array Value) (hw : ∀ d ∈ tables_1, d.before a0 Z = true) (ws : List Jvm.Cond) (b0 : Addr) (sa : Addr) (em : Addr) (ke : ClassId) (de : Addr) (kd : ClassId) (ks : ClassId) (vs : List Value) (h0 : Heap) (n0 : Nat) (Z0 : n0 ≤ h0.size) (E_b0 : Exa Z h0 b0 "com/example/loomwire/loomwire/transport/MessageBuffer") (g_b0 : n0 ≤ b0) (F_full_b0 : Fld Z h0 b0 "com/example/loomwire/loomwire/transport/MessageBuffer" "full" "Ljava/util/List;" .null) (F_last_b0 : Fld Z h0 b0 "com/example/loomwire/loomwire/transport/MessageBuffer" "last" "[B" (.ref em)) (F_lastLength_b0 : Fld Z h0 b0 "com/example/loomwire/loomwire/transport/MessageBuffer" "lastLength" "I" (.int 0)) (F_length_b0 : Fld Z h0 b0 "com/example/loomwire/loomwire/transport/MessageBuffer" "length" "I" (.int 0)) (BB : own_Base Z em ke de kd) (O0 : Old Z n0 h0) (ne_b0_sa : b0 ≠ sa) (V_sa : Arv Z h0 sa ks .byte (5 : Int32) vs (.int 0)) :
    MetFree l (⟨"com/example/loomwire/loomwire/transport/MessageBuffer", "append", "([B)V"⟩ : MethodName) (head1 (Jvm.Cond.code (⟨"com/example/loomwire/loomwire/transport/MessageBuffer", "append", "([B)V"⟩ : MethodName) prog_102_method_4_code 4 none :: ws) ({ frames := 5, cells := 4, slots := 65551, locals := 80 } : Room)) (fun a U => a = #[(.ref b0), (.ref sa)] ∧ Z.Warmed39 U.vm ∧ U.heap = h0) (fun _ _ _ _ _ => True) (fun _ U o U' => ∃ v L, o = .returned v ∧ (QQ_rma_5 Z b0 sa em ke de kd ks vs h0 n0) v U'.heap L ∧ FrameEnd U o U' L ({ frames := 5, cells := 4, slots := 65551, locals := 80 } : Room).cells ({ frames := 5, cells := 4, slots := 65551, locals := 80 } : Room).slots) := by
  refine MetFree.of_bodySF (plainFor_of_name pn_com_example_loomwire_loomwire_transport_MessageBuffer) hisR ?_
  intro p e s m args below meth c s₁ Bd hml0 hP hK
  obtain ⟨rfl, hZ, hh⟩ := hP
  have hx := Bd.exec
  have hby := Bd.bytes
  have hlk : meth.locks = false := BodyLoose.notSynchronized Bd
  have hml : c.maxLocals = 4 := hml0
  have hown : s.vm.findClass "com/example/loomwire/loomwire/transport/MessageBuffer" = some m.cls := findClass_of_methodNamed Bd.named
  have hnm := (name_of_methodNamed Bd.named Bd.method).1
  have X0 : Stand p l e ({ frames := 5, cells := 4, slots := 65551, locals := 80 } : Room) s m #[(.ref b0), (.ref sa)] below meth c s₁ [] 0 0 := Stand.of_body Bd
  have e0 : s₁.heap = h0 := by rw [← hh, Bd.state]; rfl
  have N0 := Fr.nil n0
  show own_G p.tables e below s (QQ_rma_5 Z b0 sa em ke de kd ks vs h0 n0) ({ frames := 5, cells := 4, slots := 65551, locals := 80 } : Room).cells ({ frames := 5, cells := 4, slots := 65551, locals := 80 } : Room).slots (s₁.setTop (entryFrame m #[(.ref b0), (.ref sa)] 4))
  refine oS (B := s₁.setTop (mkF m 0 #[rv b0, rv sa, .unset, .unset] [])) (fun t k => castTop (ef_rma_5 m b0 sa) k) ?_
  have V_em := BB.2.2.1.ext O0.2
  have E_em := BB.2.1.ext O0.2
  have V_de := BB.2.2.2.2.ext O0.2
  have K0 := Keep.refl h0 [b0]
  refine oS (B := s₁.setTop (mkF m 1 #[rv b0, rv sa, .unset, .unset] [(.int 0)])) (fun t k => XS.iconst X0.here hx rfl (hb hby d3_0) k) ?_
  refine oS (B := s₁.setTop (mkF m 2 #[rv b0, rv sa, iv 0, .unset] [])) (fun t k => XS.istoreN X0.here hx rfl (hb hby d3_1) rfl (l' := #[rv b0, rv sa, iv 0, .unset]) rfl k) ?_
  refine oS (B := s₁.setTop (mkF m 3 #[rv b0, rv sa, iv 0, .unset] [(.int 0)])) (fun t k => XS.iloadN X0.here hx rfl (hb hby d3_2) rfl k) ?_
  refine oS (B := s₁.setTop (mkF m 4 #[rv b0, rv sa, iv 0, .unset] [(.ref sa), (.int 0)])) (fun t k => XS.aloadN X0.here hx rfl (hb hby d3_3) rfl rfl k) ?_
  have Vo_1 := V_sa
  obtain ⟨cl_1, Ar_1, q_1, S_1, M_1, H_1, G_1⟩ := Vo_1
  refine oS (B := s₁.setTop (mkF m 5 #[rv b0, rv sa, iv 0, .unset] [(.int 5), (.int 0)])) (fun t k => X0.arraylength hx (by rw [e0]; exact Ar_1.1) (State.isArrayOf_alike hZ.alike Ar_1.2.1) (g := (mkF m 4 #[rv b0, rv sa, iv 0, .unset] [(.ref sa), (.int 0)])) rfl rfl (hb hby d3_4) t (by rw [len_of S_1 M_1]; exact k)) ?_
  refine oS (B := s₁.setTop (mkF m 8 #[rv b0, rv sa, iv 0, .unset] [])) (fun t k => XS.icmpNo X0.here hx rfl (hb hby d3_5) rfl (tlt (by decide)).2.1 k) ?_
  refine oS (B := s₁.setTop (mkF m 9 #[rv b0, rv sa, iv 0, .unset] [(.ref b0)])) (fun t k => XS.aloadN X0.here hx rfl (hb hby d3_8) rfl rfl k) ?_
  obtain ⟨T2, X2, e2, st2⟩ := getF X0 hx hZ hown (host := "") (Or.inl (ow hw 28 rfl)) Via.refl e0 F_lastLength_b0 (g := (mkF m 9 #[rv b0, rv sa, iv 0, .unset] [(.ref b0)])) rfl rfl (hb hby d3_9)
  refine oS (B := T2.setTop (mkF m 12 #[rv b0, rv sa, iv 0, .unset] [(.int 0)])) (fun t k => st2 t k) ?_
  refine oS (B := T2.setTop (mkF m 14 #[rv b0, rv sa, iv 0, .unset] [(.int 65536), (.int 0)])) (fun t k => X2.ldcInt hx hown (mvT hZ (ow hw 54 rfl)) (g := (mkF m 12 #[rv b0, rv sa, iv 0, .unset] [(.int 0)])) rfl (hb hby d3_12) t k) ?_
  refine oS (B := T2.setTop (mkF m 61 #[rv b0, rv sa, iv 0, .unset] [])) (fun t k => XS.icmpYes X2.here hx rfl (pc0 := 14) (pc' := 61) rfl (hb hby d3_14) rfl (feq (by decide)).2 (by decide) (by decide) k) ?_
  refine oS (B := T2.setTop (mkF m 62 #[rv b0, rv sa, iv 0, .unset] [(.ref sa)])) (fun t k => XS.aloadN X2.here hx rfl (hb hby d3_61) rfl rfl k) ?_
  have Vo_3 := V_sa
  obtain ⟨cl_3, Ar_3, q_3, S_3, M_3, H_3, G_3⟩ := Vo_3
  refine oS (B := T2.setTop (mkF m 63 #[rv b0, rv sa, iv 0, .unset] [(.int 5)])) (fun t k => X2.arraylength hx (by rw [e2]; exact Ar_3.1) (State.isArrayOf_alike hZ.alike Ar_3.2.1) (g := (mkF m 62 #[rv b0, rv sa, iv 0, .unset] [(.ref sa)])) rfl rfl (hb hby d3_62) t (by rw [len_of S_3 M_3]; exact k)) ?_
  refine oS (B := T2.setTop (mkF m 64 #[rv b0, rv sa, iv 0, .unset] [(.int 0), (.int 5)])) (fun t k => XS.iloadN X2.here hx rfl (hb hby d3_63) rfl k) ?_
  refine oS (B := T2.setTop (mkF m 65 #[rv b0, rv sa, iv 0, .unset] [(.int 5)])) (fun t k => XS.isub X2.here hx rfl (hb hby d3_64) rfl k) ?_
  refine oS (B := T2.setTop (mkF m 67 #[rv b0, rv sa, iv 0, .unset] [(.int 65536), (.int 5)])) (fun t k => X2.ldcInt hx hown (mvT hZ (ow hw 54 rfl)) (g := (mkF m 65 #[rv b0, rv sa, iv 0, .unset] [(.int 5)])) rfl (hb hby d3_65) t k) ?_
  refine oS (B := T2.setTop (mkF m 68 #[rv b0, rv sa, iv 0, .unset] [(.ref b0), (.int 65536), (.int 5)])) (fun t k => XS.aloadN X2.here hx rfl (hb hby d3_67) rfl rfl k) ?_
  obtain ⟨T4, X4, e4, st4⟩ := getF X2 hx hZ hown (host := "") (Or.inl (ow hw 28 rfl)) Via.refl e2 F_lastLength_b0 (g := (mkF m 68 #[rv b0, rv sa, iv 0, .unset] [(.ref b0), (.int 65536), (.int 5)])) rfl rfl (hb hby d3_68)
  refine oS (B := T4.setTop (mkF m 71 #[rv b0, rv sa, iv 0, .unset] [(.int 0), (.int 65536), (.int 5)])) (fun t k => st4 t k) ?_
  refine oS (B := T4.setTop (mkF m 72 #[rv b0, rv sa, iv 0, .unset] [(.int 65536), (.int 5)])) (fun t k => XS.isub X4.here hx rfl (hb hby d3_71) rfl k) ?_
  obtain ⟨_, _, ⟨T5, L5, k5, n5⟩, -, X5, ⟨Lc5, hQ5, l5, y5, z5⟩, st5⟩ := Jvm.LawKit.callS X4 hx (y := (⟨"java/lang/Math", "min", "(II)I"⟩ : MethodName)) hown (mvT hZ (ow hw 55 rfl)) (mvT hZ (ow hw 56 rfl)) (mvT hZ (ow hw 57 rfl)) (mvT hZ (ow hw 58 rfl)) (by decide) (backOf (W := 0) (rm8 l Z a0 hw [] (5 : Int32) (65536 : Int32)  h0 n0 Z0 ) hZ (ow hw 58 rfl) (ow hw 57 rfl) (by decide) (by decide)) (g := (mkF m 72 #[rv b0, rv sa, iv 0, .unset] [(.int 65536), (.int 5)])) rfl (by rw [hml]; rfl) (argsL := [(.int 5), (.int 65536)]) (rest := []) (lenOf pd_1 rfl) rfl (by show 2 * 0 + _ ≤ _; exact Nat.le_of_eq rfl) (hb hby d3_72) (fun _ _ => ⟨rfl, e4, (by decide : 0 + 0 ≤ _), (by decide : 0 + 0 ≤ _)⟩)
  dsimp only [Pt.U, Pt.locs, Pt.cells, Pt.slots] at X5 l5 y5 z5 st5 hQ5
  subst l5 y5 z5
  obtain ⟨rfl, N5q, e5⟩ := hQ5
  have N0 := Fr.app N0 N5q
  refine oS (B := T5.setTop (mkF m 75 #[rv b0, rv sa, iv 0, .unset] [(.int (own_min (5 : Int32) (65536 : Int32)))])) (fun t k => st5 t k) ?_
  have hlit5 : (own_min (5 : Int32) (65536 : Int32)) = (5 : Int32) := by decide
  rw [hlit5]
  refine oS (B := T5.setTop (mkF m 76 #[rv b0, rv sa, iv 0, iv 5] [])) (fun t k => XS.istoreN X5.here hx rfl (hb hby d3_75) rfl (l' := #[rv b0, rv sa, iv 0, iv 5]) rfl k) ?_
  refine oS (B := T5.setTop (mkF m 77 #[rv b0, rv sa, iv 0, iv 5] [(.ref b0)])) (fun t k => XS.aloadN X5.here hx rfl (hb hby d3_76) rfl rfl k) ?_
  obtain ⟨T6, X6, e6, st6⟩ := getF X5 hx hZ hown (host := "") (Or.inl (ow hw 28 rfl)) Via.refl e5 F_lastLength_b0 (g := (mkF m 77 #[rv b0, rv sa, iv 0, iv 5] [(.ref b0)])) rfl rfl (hb hby d3_77)
  refine oS (B := T6.setTop (mkF m 80 #[rv b0, rv sa, iv 0, iv 5] [(.int 0)])) (fun t k => st6 t k) ?_
  refine oS (B := T6.setTop (mkF m 81 #[rv b0, rv sa, iv 0, iv 5] [(.int 5), (.int 0)])) (fun t k => XS.iloadN X6.here hx rfl (hb hby d3_80) rfl k) ?_
  refine oS (B := T6.setTop (mkF m 82 #[rv b0, rv sa, iv 0, iv 5] [(.int 5)])) (fun t k => XS.iadd X6.here hx rfl (hb hby d3_81) rfl k) ?_
  refine oS (B := T6.setTop (mkF m 83 #[rv b0, rv sa, iv 0, iv 5] [(.ref b0), (.int 5)])) (fun t k => XS.aloadN X6.here hx rfl (hb hby d3_82) rfl rfl k) ?_
  obtain ⟨T7, X7, e7, st7⟩ := getF X6 hx hZ hown (host := "") (Or.inl (ow hw 12 rfl)) Via.refl e6 F_last_b0 (g := (mkF m 83 #[rv b0, rv sa, iv 0, iv 5] [(.ref b0), (.int 5)])) rfl rfl (hb hby d3_83)
  refine oS (B := T7.setTop (mkF m 86 #[rv b0, rv sa, iv 0, iv 5] [(.ref em), (.int 5)])) (fun t k => st7 t k) ?_
  have Vo_8 := V_em
  obtain ⟨cl_8, Ar_8, q_8, S_8, M_8, H_8, G_8⟩ := Vo_8
  refine oS (B := T7.setTop (mkF m 87 #[rv b0, rv sa, iv 0, iv 5] [(.int 0), (.int 5)])) (fun t k => X7.arraylength hx (by rw [e7]; exact Ar_8.1) (State.isArrayOf_alike hZ.alike Ar_8.2.1) (g := (mkF m 86 #[rv b0, rv sa, iv 0, iv 5] [(.ref em), (.int 5)])) rfl rfl (hb hby d3_86) t (by rw [len_of S_8 M_8]; exact k)) ?_
  refine oS (B := T7.setTop (mkF m 90 #[rv b0, rv sa, iv 0, iv 5] [])) (fun t k => XS.icmpNo X7.here hx rfl (hb hby d3_87) rfl (tlt (by decide)).2.2.2 k) ?_
  refine oS (B := T7.setTop (mkF m 91 #[rv b0, rv sa, iv 0, iv 5] [(.ref b0)])) (fun t k => XS.aloadN X7.here hx rfl (hb hby d3_90) rfl rfl k) ?_
  refine oS (B := T7.setTop (mkF m 92 #[rv b0, rv sa, iv 0, iv 5] [(.ref b0), (.ref b0)])) (fun t k => XS.aloadN X7.here hx rfl (hb hby d3_91) rfl rfl k) ?_
  obtain ⟨T9, X9, e9, st9⟩ := getF X7 hx hZ hown (host := "") (Or.inl (ow hw 12 rfl)) Via.refl e7 F_last_b0 (g := (mkF m 92 #[rv b0, rv sa, iv 0, iv 5] [(.ref b0), (.ref b0)])) rfl rfl (hb hby d3_92)
  refine oS (B := T9.setTop (mkF m 95 #[rv b0, rv sa, iv 0, iv 5] [(.ref em), (.ref b0)])) (fun t k => st9 t k) ?_
  refine oS (B := T9.setTop (mkF m 96 #[rv b0, rv sa, iv 0, iv 5] [(.ref b0), (.ref em), (.ref b0)])) (fun t k => XS.aloadN X9.here hx rfl (hb hby d3_95) rfl rfl k) ?_
  obtain ⟨T10, X10, e10, st10⟩ := getF X9 hx hZ hown (host := "") (Or.inl (ow hw 28 rfl)) Via.refl e9 F_lastLength_b0 (g := (mkF m 96 #[rv b0, rv sa, iv 0, iv 5] [(.ref b0), (.ref em), (.ref b0)])) rfl rfl (hb hby d3_96)
  refine oS (B := T10.setTop (mkF m 99 #[rv b0, rv sa, iv 0, iv 5] [(.int 0), (.ref em), (.ref b0)])) (fun t k => st10 t k) ?_
  refine oS (B := T10.setTop (mkF m 100 #[rv b0, rv sa, iv 0, iv 5] [(.int 5), (.int 0), (.ref em), (.ref b0)])) (fun t k => XS.iloadN X10.here hx rfl (hb hby d3_99) rfl k) ?_
  refine oS (B := T10.setTop (mkF m 101 #[rv b0, rv sa, iv 0, iv 5] [(.int 5), (.ref em), (.ref b0)])) (fun t k => XS.iadd X10.here hx rfl (hb hby d3_100) rfl k) ?_
  obtain ⟨_, _, ⟨T11, L11, k11, n11⟩, -, X11, ⟨Lc11, hQ11, l11, y11, z11⟩, st11⟩ := Jvm.LawKit.callS X10 hx (y := (⟨"com/example/loomwire/loomwire/transport/MessageBuffer", "chunkCapacity", "(I)I"⟩ : MethodName)) hown (mvT hZ (ow hw 59 rfl)) (mvT hZ (ow hw 60 rfl)) (mvT hZ (ow hw 3 rfl)) (mvT hZ (ow hw 61 rfl)) (by decide) (backOf (W := 2) (rm9_5 l Z a0 hw []   h0 n0 Z0 ) hZ (ow hw 61 rfl) (ow hw 3 rfl) (by decide) (by decide)) (g := (mkF m 101 #[rv b0, rv sa, iv 0, iv 5] [(.int 5), (.ref em), (.ref b0)])) rfl (by rw [hml]; rfl) (argsL := [(.int 5)]) (rest := [(.ref em), (.ref b0)]) (lenOf pd_0 rfl) rfl (by show 2 * 0 + _ ≤ _; exact Nat.le_of_eq rfl) (hb hby d3_101) (fun _ _ => ⟨rfl, e10, (by decide : 0 + 0 ≤ _), (by decide : 0 + 0 ≤ _)⟩)
  dsimp only [Pt.U, Pt.locs, Pt.cells, Pt.slots] at X11 l11 y11 z11 st11 hQ11
  subst l11 y11 z11
  obtain ⟨rfl, N11q, e11⟩ := hQ11
  have N0 := Fr.app N0 N11q
  refine oS (B := T11.setTop (mkF m 104 #[rv b0, rv sa, iv 0, iv 5] [(.int 8), (.ref em), (.ref b0)])) (fun t k => st11 t k) ?_
  have lt_b0 := E_b0.lt
  have lt_sa := V_sa.lt
  have KZ := K0
  obtain ⟨_, _, ⟨T12, L12, k12, n12⟩, -, X12, ⟨Lc12, hQ12, l12, y12, z12⟩, st12⟩ := Jvm.LawKit.callS X11 hx (y := (⟨"java/util/Arrays", "copyOf", "([BI)[B"⟩ : MethodName)) hown (mvT hZ (ow hw 40 rfl)) (mvT hZ (ow hw 41 rfl)) (mvT hZ (ow hw 42 rfl)) (mvT hZ (ow hw 43 rfl)) (by decide) (backOf (W := 1) (rmg_8 l Z a0 hw []  em ke de kd h0 n0 Z0 BB O0) hZ (ow hw 43 rfl) (ow hw 42 rfl) (by decide) (by decide)) (g := (mkF m 104 #[rv b0, rv sa, iv 0, iv 5] [(.int 8), (.ref em), (.ref b0)])) rfl (by rw [hml]; rfl) (argsL := [(.ref em), (.int 8)]) (rest := [(.ref b0)]) (lenOf pd_6 rfl) rfl (by show 2 * 0 + _ ≤ _; exact Nat.le_of_eq rfl) (hb hby d3_104) (fun _ _ => ⟨rfl, e11, (by decide : 0 + 1 ≤ _), (by decide : 0 + 8 ≤ _)⟩)
  dsimp only [Pt.U, Pt.locs, Pt.cells, Pt.slots] at X12 l12 y12 z12 st12 hQ12
  subst l12 y12 z12
  obtain ⟨la, kla, vla, rfl, N12q, K12, g_la, sz'_la, E_la, V_la, hlla⟩ := hQ12
  have N0 := Fr.app N0 N12q
  have E_b0 := E_b0.keep K12
  have F_full_b0 := F_full_b0.keep K12 nin0
  have F_last_b0 := F_last_b0.keep K12 nin0
  have F_lastLength_b0 := F_lastLength_b0.keep K12 nin0
  have F_length_b0 := F_length_b0.keep K12 nin0
  have V_sa := V_sa.keep K12 nin0
  have E_em := E_em.keep K12
  have V_em := V_em.keep K12 nin0
  have V_de := V_de.keep K12 nin0
  have Z0 := Nat.le_trans Z0 K12.1
  have O0 := O0.keep K12 all0
  have K0 := K0.trans K12 all0
  have ne_b0_la : b0 ≠ la := Nat.ne_of_lt (Nat.lt_of_lt_of_le lt_b0 sz'_la)
  have ne_sa_la : sa ≠ la := Nat.ne_of_lt (Nat.lt_of_lt_of_le lt_sa sz'_la)
  have sz_la : h0.size ≤ la := Nat.le_trans KZ.1 sz'_la
  refine oS (B := T12.setTop (mkF m 107 #[rv b0, rv sa, iv 0, iv 5] [(.ref la), (.ref b0)])) (fun t k => st12 t k) ?_
  obtain ⟨T13, h13, X13, e13, W13, st13⟩ := putF X12 hx hZ hown (host := "") (Or.inl (ow hw 12 rfl)) Via.refl rfl F_last_b0 E_b0 (Or.inl (ow hw 13 rfl)) (ow hw 2 rfl) (ty := (.array .byte)) (by decide) rfl rfl (g := (mkF m 107 #[rv b0, rv sa, iv 0, iv 5] [(.ref la), (.ref b0)])) rfl rfl (hb hby d3_107)
  have E_b0 := E_b0.wr W13
  have F_full_b0 := F_full_b0.other W13 (Or.inr (slot_ne (Or.inl (ow hw 27 rfl)) (Or.inl (ow hw 13 rfl)) (by decide) (t := (.object "java/util/List")) (t' := (.array .byte)) (by decide) (by decide)))
  have F_last_b0 := F_last_b0.same W13
  have F_lastLength_b0 := F_lastLength_b0.other W13 (Or.inr (slot_ne (Or.inl (ow hw 29 rfl)) (Or.inl (ow hw 13 rfl)) (by decide) (t := .int) (t' := (.array .byte)) (by decide) (by decide)))
  have F_length_b0 := F_length_b0.other W13 (Or.inr (slot_ne (Or.inl (ow hw 20 rfl)) (Or.inl (ow hw 13 rfl)) (by decide) (t := .int) (t' := (.array .byte)) (by decide) (by decide)))
  have V_sa := V_sa.other W13 (Ne.symm ne_b0_sa)
  have E_em := E_em.wr W13
  have V_em := V_em.other W13 (ne_exa E_em E_b0 (by decide))
  have V_de := V_de.other W13 (O0.ne BB.2.2.2.2.lt g_b0)
  have E_la := E_la.wr W13
  have V_la := V_la.other W13 (Ne.symm ne_b0_la)
  have Z0 := Nat.le_trans Z0 (Keep.of_wr W13).1
  have K0 := K0.wr W13 (Or.inl (List.mem_of_getElem? (i := 0) rfl))
  have N0 := Fr.snoc X13 N0 g_b0
  have O0 := O0.wr W13 g_b0
  refine oS (B := T13.setTop (mkF m 110 #[rv b0, rv sa, iv 0, iv 5] [])) (fun t k => st13 t k) ?_
  refine oS (B := T13.setTop (mkF m 111 #[rv b0, rv sa, iv 0, iv 5] [(.ref sa)])) (fun t k => XS.aloadN X13.here hx rfl (hb hby d3_110) rfl rfl k) ?_
  refine oS (B := T13.setTop (mkF m 112 #[rv b0, rv sa, iv 0, iv 5] [(.int 0), (.ref sa)])) (fun t k => XS.iloadN X13.here hx rfl (hb hby d3_111) rfl k) ?_
  refine oS (B := T13.setTop (mkF m 113 #[rv b0, rv sa, iv 0, iv 5] [(.ref b0), (.int 0), (.ref sa)])) (fun t k => XS.aloadN X13.here hx rfl (hb hby d3_112) rfl rfl k) ?_
  obtain ⟨T14, X14, e14, st14⟩ := getF X13 hx hZ hown (host := "") (Or.inl (ow hw 12 rfl)) Via.refl e13 F_last_b0 (g := (mkF m 113 #[rv b0, rv sa, iv 0, iv 5] [(.ref b0), (.int 0), (.ref sa)])) rfl rfl (hb hby d3_113)
  refine oS (B := T14.setTop (mkF m 116 #[rv b0, rv sa, iv 0, iv 5] [(.ref la), (.int 0), (.ref sa)])) (fun t k => st14 t k) ?_
  refine oS (B := T14.setTop (mkF m 117 #[rv b0, rv sa, iv 0, iv 5] [(.ref b0), (.ref la), (.int 0), (.ref sa)])) (fun t k => XS.aloadN X14.here hx rfl (hb hby d3_116) rfl rfl k) ?_
  obtain ⟨T15, X15, e15, st15⟩ := getF X14 hx hZ hown (host := "") (Or.inl (ow hw 28 rfl)) Via.refl e14 F_lastLength_b0 (g := (mkF m 117 #[rv b0, rv sa, iv 0, iv 5] [(.ref b0), (.ref la), (.int 0), (.ref sa)])) rfl rfl (hb hby d3_117)
  refine oS (B := T15.setTop (mkF m 120 #[rv b0, rv sa, iv 0, iv 5] [(.int 0), (.ref la), (.int 0), (.ref sa)])) (fun t k => st15 t k) ?_
  refine oS (B := T15.setTop (mkF m 121 #[rv b0, rv sa, iv 0, iv 5] [(.int 5), (.int 0), (.ref la), (.int 0), (.ref sa)])) (fun t k => XS.iloadN X15.here hx rfl (hb hby d3_120) rfl k) ?_
  obtain ⟨T16, h16, L16, X16, e16, N16q, K16, VC16, st16⟩ := cpA X15 hx hZ hown (ow hw 76 rfl) (ow hw 75 rfl) (ow hw 73 rfl) (ow hw 74 rfl) e15 V_sa V_la (Or.inl ⟨rfl, rfl⟩) (by decide) (by decide) (by decide) (by decide) (by decide) rfl (by rw [hlla]; decide) N0 g_la (g := (mkF m 121 #[rv b0, rv sa, iv 0, iv 5] [(.int 5), (.int 0), (.ref la), (.int 0), (.ref sa)])) rfl (by rw [hml]; rfl) rfl (hb hby d3_121) (by decide) (W := 0) (by show 2 * 0 + _ ≤ _; exact Nat.le_of_eq rfl) (by decide)
  have E_b0 := E_b0.keep K16
  have F_full_b0 := F_full_b0.keep K16 (ninS ne_b0_la nin0)
  have F_last_b0 := F_last_b0.keep K16 (ninS ne_b0_la nin0)
  have F_lastLength_b0 := F_lastLength_b0.keep K16 (ninS ne_b0_la nin0)
  have F_length_b0 := F_length_b0.keep K16 (ninS ne_b0_la nin0)
  have V_sa := V_sa.keep K16 (ninS ne_sa_la nin0)
  have E_em := E_em.keep K16
  have V_em := V_em.keep K16 (ninS (O0.ne BB.2.2.1.lt g_la) nin0)
  have V_de := V_de.keep K16 (ninS (O0.ne BB.2.2.2.2.lt g_la) nin0)
  have E_la := E_la.keep K16
  have Z0 := Nat.le_trans Z0 K16.1
  have O0 := O0.keep K16 (allS g_la all0)
  have K0 := K0.trans K16 (allS (Or.inr sz_la) all0)
  have N0 := N16q
  have V_la := VC16
  refine oS (B := T16.setTop (mkF m 124 #[rv b0, rv sa, iv 0, iv 5] [])) (fun t k => st16 t k) ?_
  refine oS (B := T16.setTop (mkF m 125 #[rv b0, rv sa, iv 0, iv 5] [(.ref b0)])) (fun t k => XS.aloadN X16.here hx rfl (hb hby d3_124) rfl rfl k) ?_
  refine oS (B := T16.setTop (mkF m 126 #[rv b0, rv sa, iv 0, iv 5] [(.ref b0), (.ref b0)])) (fun t k => XS.dup X16.here hx rfl (hb hby d3_125) rfl rfl k) ?_
  obtain ⟨T17, X17, e17, st17⟩ := getF X16 hx hZ hown (host := "") (Or.inl (ow hw 28 rfl)) Via.refl e16 F_lastLength_b0 (g := (mkF m 126 #[rv b0, rv sa, iv 0, iv 5] [(.ref b0), (.ref b0)])) rfl rfl (hb hby d3_126)
  refine oS (B := T17.setTop (mkF m 129 #[rv b0, rv sa, iv 0, iv 5] [(.int 0), (.ref b0)])) (fun t k => st17 t k) ?_
  refine oS (B := T17.setTop (mkF m 130 #[rv b0, rv sa, iv 0, iv 5] [(.int 5), (.int 0), (.ref b0)])) (fun t k => XS.iloadN X17.here hx rfl (hb hby d3_129) rfl k) ?_
  refine oS (B := T17.setTop (mkF m 131 #[rv b0, rv sa, iv 0, iv 5] [(.int 5), (.ref b0)])) (fun t k => XS.iadd X17.here hx rfl (hb hby d3_130) rfl k) ?_
  obtain ⟨T18, h18, X18, e18, W18, st18⟩ := putF X17 hx hZ hown (host := "") (Or.inl (ow hw 28 rfl)) Via.refl e17 F_lastLength_b0 E_b0 (Or.inl (ow hw 29 rfl)) (ow hw 2 rfl) (ty := .int) (by decide) rfl rfl (g := (mkF m 131 #[rv b0, rv sa, iv 0, iv 5] [(.int 5), (.ref b0)])) rfl rfl (hb hby d3_131)
  have E_b0 := E_b0.wr W18
  have F_full_b0 := F_full_b0.other W18 (Or.inr (slot_ne (Or.inl (ow hw 27 rfl)) (Or.inl (ow hw 29 rfl)) (by decide) (t := (.object "java/util/List")) (t' := .int) (by decide) (by decide)))
  have F_last_b0 := F_last_b0.other W18 (Or.inr (slot_ne (Or.inl (ow hw 13 rfl)) (Or.inl (ow hw 29 rfl)) (by decide) (t := (.array .byte)) (t' := .int) (by decide) (by decide)))
  have F_lastLength_b0 := F_lastLength_b0.same W18
  have F_length_b0 := F_length_b0.other W18 (Or.inr (slot_ne (Or.inl (ow hw 20 rfl)) (Or.inl (ow hw 29 rfl)) (by decide) (t := .int) (t' := .int) (by decide) (by decide)))
  have V_sa := V_sa.other W18 (Ne.symm ne_b0_sa)
  have E_em := E_em.wr W18
  have V_em := V_em.other W18 (ne_exa E_em E_b0 (by decide))
  have V_de := V_de.other W18 (O0.ne BB.2.2.2.2.lt g_b0)
  have E_la := E_la.wr W18
  have V_la := V_la.other W18 (Ne.symm ne_b0_la)
  have Z0 := Nat.le_trans Z0 (Keep.of_wr W18).1
  have K0 := K0.wr W18 (Or.inl (List.mem_of_getElem? (i := 0) rfl))
  have N0 := Fr.snoc X18 N0 g_b0
  have O0 := O0.wr W18 g_b0
  refine oS (B := T18.setTop (mkF m 134 #[rv b0, rv sa, iv 0, iv 5] [])) (fun t k => st18 t k) ?_
  refine oS (B := T18.setTop (mkF m 135 #[rv b0, rv sa, iv 0, iv 5] [(.int 0)])) (fun t k => XS.iloadN X18.here hx rfl (hb hby d3_134) rfl k) ?_
  refine oS (B := T18.setTop (mkF m 136 #[rv b0, rv sa, iv 0, iv 5] [(.int 5), (.int 0)])) (fun t k => XS.iloadN X18.here hx rfl (hb hby d3_135) rfl k) ?_
  refine oS (B := T18.setTop (mkF m 137 #[rv b0, rv sa, iv 0, iv 5] [(.int 5)])) (fun t k => XS.iadd X18.here hx rfl (hb hby d3_136) rfl k) ?_
  refine oS (B := T18.setTop (mkF m 138 #[rv b0, rv sa, iv 5, iv 5] [])) (fun t k => XS.istoreN X18.here hx rfl (hb hby d3_137) rfl (l' := #[rv b0, rv sa, iv 5, iv 5]) rfl k) ?_
  refine oS (B := T18.setTop (mkF m 2 #[rv b0, rv sa, iv 5, iv 5] [])) (fun t k => XS.goto X18.here hx rfl (pc0 := 138) (pc' := 2) rfl (hb hby d3_138) (by decide) (by decide) k) ?_
  refine oS (B := T18.setTop (mkF m 3 #[rv b0, rv sa, iv 5, iv 5] [(.int 5)])) (fun t k => XS.iloadN X18.here hx rfl (hb hby d3_2) rfl k) ?_
  refine oS (B := T18.setTop (mkF m 4 #[rv b0, rv sa, iv 5, iv 5] [(.ref sa), (.int 5)])) (fun t k => XS.aloadN X18.here hx rfl (hb hby d3_3) rfl rfl k) ?_
  have Vo_19 := V_sa
  obtain ⟨cl_19, Ar_19, q_19, S_19, M_19, H_19, G_19⟩ := Vo_19
  refine oS (B := T18.setTop (mkF m 5 #[rv b0, rv sa, iv 5, iv 5] [(.int 5), (.int 5)])) (fun t k => X18.arraylength hx (by rw [e18]; exact Ar_19.1) (State.isArrayOf_alike hZ.alike Ar_19.2.1) (g := (mkF m 4 #[rv b0, rv sa, iv 5, iv 5] [(.ref sa), (.int 5)])) rfl rfl (hb hby d3_4) t (by rw [len_of S_19 M_19]; exact k)) ?_
  refine oS (B := T18.setTop (mkF m 141 #[rv b0, rv sa, iv 5, iv 5] [])) (fun t k => XS.icmpYes X18.here hx rfl (pc0 := 5) (pc' := 141) rfl (hb hby d3_5) rfl (flt (by decide)).2.1 (by decide) (by decide) k) ?_
  refine oS (B := T18.setTop (mkF m 142 #[rv b0, rv sa, iv 5, iv 5] [(.ref b0)])) (fun t k => XS.aloadN X18.here hx rfl (hb hby d3_141) rfl rfl k) ?_
  refine oS (B := T18.setTop (mkF m 143 #[rv b0, rv sa, iv 5, iv 5] [(.ref b0), (.ref b0)])) (fun t k => XS.dup X18.here hx rfl (hb hby d3_142) rfl rfl k) ?_
  obtain ⟨T20, X20, e20, st20⟩ := getF X18 hx hZ hown (host := "") (Or.inl (ow hw 19 rfl)) Via.refl e18 F_length_b0 (g := (mkF m 143 #[rv b0, rv sa, iv 5, iv 5] [(.ref b0), (.ref b0)])) rfl rfl (hb hby d3_143)
  refine oS (B := T20.setTop (mkF m 146 #[rv b0, rv sa, iv 5, iv 5] [(.int 0), (.ref b0)])) (fun t k => st20 t k) ?_
  refine oS (B := T20.setTop (mkF m 147 #[rv b0, rv sa, iv 5, iv 5] [(.ref sa), (.int 0), (.ref b0)])) (fun t k => XS.aloadN X20.here hx rfl (hb hby d3_146) rfl rfl k) ?_
  have Vo_21 := V_sa
  obtain ⟨cl_21, Ar_21, q_21, S_21, M_21, H_21, G_21⟩ := Vo_21
  refine oS (B := T20.setTop (mkF m 148 #[rv b0, rv sa, iv 5, iv 5] [(.int 5), (.int 0), (.ref b0)])) (fun t k => X20.arraylength hx (by rw [e20]; exact Ar_21.1) (State.isArrayOf_alike hZ.alike Ar_21.2.1) (g := (mkF m 147 #[rv b0, rv sa, iv 5, iv 5] [(.ref sa), (.int 0), (.ref b0)])) rfl rfl (hb hby d3_147) t (by rw [len_of S_21 M_21]; exact k)) ?_
  refine oS (B := T20.setTop (mkF m 149 #[rv b0, rv sa, iv 5, iv 5] [(.int 5), (.ref b0)])) (fun t k => XS.iadd X20.here hx rfl (hb hby d3_148) rfl k) ?_
  obtain ⟨T22, h22, X22, e22, W22, st22⟩ := putF X20 hx hZ hown (host := "") (Or.inl (ow hw 19 rfl)) Via.refl e20 F_length_b0 E_b0 (Or.inl (ow hw 20 rfl)) (ow hw 2 rfl) (ty := .int) (by decide) rfl rfl (g := (mkF m 149 #[rv b0, rv sa, iv 5, iv 5] [(.int 5), (.ref b0)])) rfl rfl (hb hby d3_149)
  have E_b0 := E_b0.wr W22
  have F_full_b0 := F_full_b0.other W22 (Or.inr (slot_ne (Or.inl (ow hw 27 rfl)) (Or.inl (ow hw 20 rfl)) (by decide) (t := (.object "java/util/List")) (t' := .int) (by decide) (by decide)))
  have F_last_b0 := F_last_b0.other W22 (Or.inr (slot_ne (Or.inl (ow hw 13 rfl)) (Or.inl (ow hw 20 rfl)) (by decide) (t := (.array .byte)) (t' := .int) (by decide) (by decide)))
  have F_lastLength_b0 := F_lastLength_b0.other W22 (Or.inr (slot_ne (Or.inl (ow hw 29 rfl)) (Or.inl (ow hw 20 rfl)) (by decide) (t := .int) (t' := .int) (by decide) (by decide)))
  have F_length_b0 := F_length_b0.same W22
  have V_sa := V_sa.other W22 (Ne.symm ne_b0_sa)
  have E_em := E_em.wr W22
  have V_em := V_em.other W22 (ne_exa E_em E_b0 (by decide))
  have V_de := V_de.other W22 (O0.ne BB.2.2.2.2.lt g_b0)
  have E_la := E_la.wr W22
  have V_la := V_la.other W22 (Ne.symm ne_b0_la)
  have Z0 := Nat.le_trans Z0 (Keep.of_wr W22).1
  have K0 := K0.wr W22 (Or.inl (List.mem_of_getElem? (i := 0) rfl))
  have N0 := Fr.snoc X22 N0 g_b0
  have O0 := O0.wr W22 g_b0
  refine oS (B := T22.setTop (mkF m 152 #[rv b0, rv sa, iv 5, iv 5] [])) (fun t k => st22 t k) ?_
  exact own_retV X22 hx hlk Bd.returns (hb hby d3_152) (by decide) (by decide) (by rw [e22]; exact ⟨_, _, _, _, rfl, N0, K0, F_full_b0, F_last_b0, F_lastLength_b0, F_length_b0⟩)
theorem ef_rma_6 (m : MethodId) (x0 : Addr) (x1 : Addr) : entryFrame m #[(.ref x0), (.ref x1)] 4 = mkF m 0 #[rv x0, rv x1, .unset, .unset] [] := by first | (simp [entryFrame, mkF, argsToLocals, Value.category]; done) | rfl
def QQ_rma_6 (Z : State) (b0 : Addr) (sa : Addr) (em : Addr) (ke : ClassId) (de : Addr) (kd : ClassId) (ks : ClassId) (vs : List Value) (h0 : Heap) (n0 : Nat) (v : Option Value) (h : Heap) (L : List Loc) : Prop := ∃ vf vl vll vlen : Value, v = none ∧ Fr n0 L ∧ Keep h0 h [b0] ∧ Fld Z h b0 "com/example/loomwire/loomwire/transport/MessageBuffer" "full" "Ljava/util/List;" vf ∧ Fld Z h b0 "com/example/loomwire/loomwire/transport/MessageBuffer" "last" "[B" vl ∧ Fld Z h b0 "com/example/loomwire/loomwire/transport/MessageBuffer" "lastLength" "I" vll ∧ Fld Z h b0 "com/example/loomwire/loomwire/transport/MessageBuffer" "length" "I" vlen
set_option maxRecDepth 65536 in
set_option maxHeartbeats 40000000 in
theorem rma_6 (l : Launch) (Z : State) (a0 : Array Value) (hw : ∀ d ∈ tables_1, d.before a0 Z = true) (ws : List Jvm.Cond) (b0 : Addr) (sa : Addr) (em : Addr) (ke : ClassId) (de : Addr) (kd : ClassId) (ks : ClassId) (vs : List Value) (h0 : Heap) (n0 : Nat) (Z0 : n0 ≤ h0.size) (E_b0 : Exa Z h0 b0 "com/example/loomwire/loomwire/transport/MessageBuffer") (g_b0 : n0 ≤ b0) (F_full_b0 : Fld Z h0 b0 "com/example/loomwire/loomwire/transport/MessageBuffer" "full" "Ljava/util/List;" .null) (F_last_b0 : Fld Z h0 b0 "com/example/loomwire/loomwire/transport/MessageBuffer" "last" "[B" (.ref em)) (F_lastLength_b0 : Fld Z h0 b0 "com/example/loomwire/loomwire/transport/MessageBuffer" "lastLength" "I" (.int 0)) (F_length_b0 : Fld Z h0 b0 "com/example/loomwire/loomwire/transport/MessageBuffer" "length" "I" (.int 0)) (BB : own_Base Z em ke de kd) (O0 : Old Z n0 h0) (ne_b0_sa : b0 ≠ sa) (V_sa : Arv Z h0 sa ks .byte (6 : Int32) vs (.int 0)) :
    MetFree l (⟨"com/example/loomwire/loomwire/transport/MessageBuffer", "append", "([B)V"⟩ : MethodName) (head1 (Jvm.Cond.code (⟨"com/example/loomwire/loomwire/transport/MessageBuffer", "append", "([B)V"⟩ : MethodName) prog_102_method_4_code 4 none :: ws) ({ frames := 5, cells := 4, slots := 65551, locals := 80 } : Room)) (fun a U => a = #[(.ref b0), (.ref sa)] ∧ Z.Warmed39 U.vm ∧ U.heap = h0) (fun _ _ _ _ _ => True) (fun _ U o U' => ∃ v L, o = .returned v ∧ (QQ_rma_6 Z b0 sa em ke de kd ks vs h0 n0) v U'.heap L ∧ FrameEnd U o U' L ({ frames := 5, cells := 4, slots := 65551, locals := 80 } : Room).cells ({ frames := 5, cells := 4, slots := 65551, locals := 80 } : Room).slots) := by
  refine MetFree.of_bodySF (plainFor_of_name pn_com_example_loomwire_loomwire_transport_MessageBuffer) hisR ?_
  intro p e s m args below meth c s₁ Bd hml0 hP hK
  obtain ⟨rfl, hZ, hh⟩ := hP
  have hx := Bd.exec
  have hby := Bd.bytes
  have hlk : meth.locks = false := BodyLoose.notSynchronized Bd
  have hml : c.maxLocals = 4 := hml0
  have hown : s.vm.findClass "com/example/loomwire/loomwire/transport/MessageBuffer" = some m.cls := findClass_of_methodNamed Bd.named
  have hnm := (name_of_methodNamed Bd.named Bd.method).1
  have X0 : Stand p l e ({ frames := 5, cells := 4, slots := 65551, locals := 80 } : Room) s m #[(.ref b0), (.ref sa)] below meth c s₁ [] 0 0 := Stand.of_body Bd
  have e0 : s₁.heap = h0 := by rw [← hh, Bd.state]; rfl
  have N0 := Fr.nil n0
  show own_G p.tables e below s (QQ_rma_6 Z b0 sa em ke de kd ks vs h0 n0) ({ frames := 5, cells := 4, slots := 65551, locals := 80 } : Room).cells ({ frames := 5, cells := 4, slots := 65551, locals := 80 } : Room).slots (s₁.setTop (entryFrame m #[(.ref b0), (.ref sa)] 4))
  refine oS (B := s₁.setTop (mkF m 0 #[rv b0, rv sa, .unset, .unset] [])) (fun t k => castTop (ef_rma_6 m b0 sa) k) ?_
  have V_em := BB.2.2.1.ext O0.2
  have E_em := BB.2.1.ext O0.2
  have V_de := BB.2.2.2.2.ext O0.2
  have K0 := Keep.refl h0 [b0]
  refine oS (B := s₁.setTop (mkF m 1 #[rv b0, rv sa, .unset, .unset] [(.int 0)])) (fun t k => XS.iconst X0.here hx rfl (hb hby d3_0) k) ?_
  refine oS (B := s₁.setTop (mkF m 2 #[rv b0, rv sa, iv 0, .unset] [])) (fun t k => XS.istoreN X0.here hx rfl (hb hby d3_1) rfl (l' := #[rv b0, rv sa, iv 0, .unset]) rfl k) ?_
  refine oS (B := s₁.setTop (mkF m 3 #[rv b0, rv sa, iv 0, .unset] [(.int 0)])) (fun t k => XS.iloadN X0.here hx rfl (hb hby d3_2) rfl k) ?_
  refine oS (B := s₁.setTop (mkF m 4 #[rv b0, rv sa, iv 0, .unset] [(.ref sa), (.int 0)])) (fun t k => XS.aloadN X0.here hx rfl (hb hby d3_3) rfl rfl k) ?_
  have Vo_1 := V_sa
  obtain ⟨cl_1, Ar_1, q_1, S_1, M_1, H_1, G_1⟩ := Vo_1
  refine oS (B := s₁.setTop (mkF m 5 #[rv b0, rv sa, iv 0, .unset] [(.int 6), (.int 0)])) (fun t k => X0.arraylength hx (by rw [e0]; exact Ar_1.1) (State.isArrayOf_alike hZ.alike Ar_1.2.1) (g := (mkF m 4 #[rv b0, rv sa, iv 0, .unset] [(.ref sa), (.int 0)])) rfl rfl (hb hby d3_4) t (by rw [len_of S_1 M_1]; exact k)) ?_
  refine oS (B := s₁.setTop (mkF m 8 #[rv b0, rv sa, iv 0, .unset] [])) (fun t k => XS.icmpNo X0.here hx rfl (hb hby d3_5) rfl (tlt (by decide)).2.1 k) ?_
  refine oS (B := s₁.setTop (mkF m 9 #[rv b0, rv sa, iv 0, .unset] [(.ref b0)])) (fun t k => XS.aloadN X0.here hx rfl (hb hby d3_8) rfl rfl k) ?_
  obtain ⟨T2, X2, e2, st2⟩ := getF X0 hx hZ hown (host := "") (Or.inl (ow hw 28 rfl)) Via.refl e0 F_lastLength_b0 (g := (mkF m 9 #[rv b0, rv sa, iv 0, .unset] [(.ref b0)])) rfl rfl (hb hby d3_9)
  refine oS (B := T2.setTop (mkF m 12 #[rv b0, rv sa, iv 0, .unset] [(.int 0)])) (fun t k => st2 t k) ?_
  refine oS (B := T2.setTop (mkF m 14 #[rv b0, rv sa, iv 0, .unset] [(.int 65536), (.int 0)])) (fun t k => X2.ldcInt hx hown (mvT hZ (ow hw 54 rfl)) (g := (mkF m 12 #[rv b0, rv sa, iv 0, .unset] [(.int 0)])) rfl (hb hby d3_12) t k) ?_
  refine oS (B := T2.setTop (mkF m 61 #[rv b0, rv sa, iv 0, .unset] [])) (fun t k => XS.icmpYes X2.here hx rfl (pc0 := 14) (pc' := 61) rfl (hb hby d3_14) rfl (feq (by decide)).2 (by decide) (by decide) k) ?_
  refine oS (B := T2.setTop (mkF m 62 #[rv b0, rv sa, iv 0, .unset] [(.ref sa)])) (fun t k => XS.aloadN X2.here hx rfl (hb hby d3_61) rfl rfl k) ?_
  have Vo_3 := V_sa
  obtain ⟨cl_3, Ar_3, q_3, S_3, M_3, H_3, G_3⟩ := Vo_3
  refine oS (B := T2.setTop (mkF m 63 #[rv b0, rv sa, iv 0, .unset] [(.int 6)])) (fun t k => X2.arraylength hx (by rw [e2]; exact Ar_3.1) (State.isArrayOf_alike hZ.alike Ar_3.2.1) (g := (mkF m 62 #[rv b0, rv sa, iv 0, .unset] [(.ref sa)])) rfl rfl (hb hby d3_62) t (by rw [len_of S_3 M_3]; exact k)) ?_
  refine oS (B := T2.setTop (mkF m 64 #[rv b0, rv sa, iv 0, .unset] [(.int 0), (.int 6)])) (fun t k => XS.iloadN X2.here hx rfl (hb hby d3_63) rfl k) ?_
  refine oS (B := T2.setTop (mkF m 65 #[rv b0, rv sa, iv 0, .unset] [(.int 6)])) (fun t k => XS.isub X2.here hx rfl (hb hby d3_64) rfl k) ?_
  refine oS (B := T2.setTop (mkF m 67 #[rv b0, rv sa, iv 0, .unset] [(.int 65536), (.int 6)])) (fun t k => X2.ldcInt hx hown (mvT hZ (ow hw 54 rfl)) (g := (mkF m 65 #[rv b0, rv sa, iv 0, .unset] [(.int 6)])) rfl (hb hby d3_65) t k) ?_
  refine oS (B := T2.setTop (mkF m 68 #[rv b0, rv sa, iv 0, .unset] [(.ref b0), (.int 65536), (.int 6)])) (fun t k => XS.aloadN X2.here hx rfl (hb hby d3_67) rfl rfl k) ?_
  obtain ⟨T4, X4, e4, st4⟩ := getF X2 hx hZ hown (host := "") (Or.inl (ow hw 28 rfl)) Via.refl e2 F_lastLength_b0 (g := (mkF m 68 #[rv b0, rv sa, iv 0, .unset] [(.ref b0), (.int 65536), (.int 6)])) rfl rfl (hb hby d3_68)
  refine oS (B := T4.setTop (mkF m 71 #[rv b0, rv sa, iv 0, .unset] [(.int 0), (.int 65536), (.int 6)])) (fun t k => st4 t k) ?_
  refine oS (B := T4.setTop (mkF m 72 #[rv b0, rv sa, iv 0, .unset] [(.int 65536), (.int 6)])) (fun t k => XS.isub X4.here hx rfl (hb hby d3_71) rfl k) ?_
  obtain ⟨_, _, ⟨T5, L5, k5, n5⟩, -, X5, ⟨Lc5, hQ5, l5, y5, z5⟩, st5⟩ := Jvm.LawKit.callS X4 hx (y := (⟨"java/lang/Math", "min", "(II)I"⟩ : MethodName)) hown (mvT hZ (ow hw 55 rfl)) (mvT hZ (ow hw 56 rfl)) (mvT hZ (ow hw 57 rfl)) (mvT hZ (ow hw 58 rfl)) (by decide) (backOf (W := 0) (rm8 l Z a0 hw [] (6 : Int32) (65536 : Int32)  h0 n0 Z0 ) hZ (ow hw 58 rfl) (ow hw 57 rfl) (by decide) (by decide)) (g := (mkF m 72 #[rv b0, rv sa, iv 0, .unset] [(.int 65536), (.int 6)])) rfl (by rw [hml]; rfl) (argsL := [(.int 6), (.int 65536)]) (rest := []) (lenOf pd_1 rfl) rfl (by show 2 * 0 + _ ≤ _; exact Nat.le_of_eq rfl) (hb hby d3_72) (fun _ _ => ⟨rfl, e4, (by decide : 0 + 0 ≤ _), (by decide : 0 + 0 ≤ _)⟩)
  dsimp only [Pt.U, Pt.locs, Pt.cells, Pt.slots] at X5 l5 y5 z5 st5 hQ5
  subst l5 y5 z5
  obtain ⟨rfl, N5q, e5⟩ := hQ5
  have N0 := Fr.app N0 N5q
  refine oS (B := T5.setTop (mkF m 75 #[rv b0, rv sa, iv 0, .unset] [(.int (own_min (6 : Int32) (65536 : Int32)))])) (fun t k => st5 t k) ?_
  have hlit5 : (own_min (6 : Int32) (65536 : Int32)) = (6 : Int32) := by decide
  rw [hlit5]
  refine oS (B := T5.setTop (mkF m 76 #[rv b0, rv sa, iv 0, iv 6] [])) (fun t k => XS.istoreN X5.here hx rfl (hb hby d3_75) rfl (l' := #[rv b0, rv sa, iv 0, iv 6]) rfl k) ?_
  refine oS (B := T5.setTop (mkF m 77 #[rv b0, rv sa, iv 0, iv 6] [(.ref b0)])) (fun t k => XS.aloadN X5.here hx rfl (hb hby d3_76) rfl rfl k) ?_
  obtain ⟨T6, X6, e6, st6⟩ := getF X5 hx hZ hown (host := "") (Or.inl (ow hw 28 rfl)) Via.refl e5 F_lastLength_b0 (g := (mkF m 77 #[rv b0, rv sa, iv 0, iv 6] [(.ref b0)])) rfl rfl (hb hby d3_77)
  refine oS (B := T6.setTop (mkF m 80 #[rv b0, rv sa, iv 0, iv 6] [(.int 0)])) (fun t k => st6 t k) ?_
  refine oS (B := T6.setTop (mkF m 81 #[rv b0, rv sa, iv 0, iv 6] [(.int 6), (.int 0)])) (fun t k => XS.iloadN X6.here hx rfl (hb hby d3_80) rfl k) ?_
  refine oS (B := T6.setTop (mkF m 82 #[rv b0, rv sa, iv 0, iv 6] [(.int 6)])) (fun t k => XS.iadd X6.here hx rfl (hb hby d3_81) rfl k) ?_
  refine oS (B := T6.setTop (mkF m 83 #[rv b0, rv sa, iv 0, iv 6] [(.ref b0), (.int 6)])) (fun t k => XS.aloadN X6.here hx rfl (hb hby d3_82) rfl rfl k) ?_
  obtain ⟨T7, X7, e7, st7⟩ := getF X6 hx hZ hown (host := "") (Or.inl (ow hw 12 rfl)) Via.refl e6 F_last_b0 (g := (mkF m 83 #[rv b0, rv sa, iv 0, iv 6] [(.ref b0), (.int 6)])) rfl rfl (hb hby d3_83)
  refine oS (B := T7.setTop (mkF m 86 #[rv b0, rv sa, iv 0, iv 6] [(.ref em), (.int 6)])) (fun t k => st7 t k) ?_
  have Vo_8 := V_em
  obtain ⟨cl_8, Ar_8, q_8, S_8, M_8, H_8, G_8⟩ := Vo_8
  refine oS (B := T7.setTop (mkF m 87 #[rv b0, rv sa, iv 0, iv 6] [(.int 0), (.int 6)])) (fun t k => X7.arraylength hx (by rw [e7]; exact Ar_8.1) (State.isArrayOf_alike hZ.alike Ar_8.2.1) (g := (mkF m 86 #[rv b0, rv sa, iv 0, iv 6] [(.ref em), (.int 6)])) rfl rfl (hb hby d3_86) t (by rw [len_of S_8 M_8]; exact k)) ?_
  refine oS (B := T7.setTop (mkF m 90 #[rv b0, rv sa, iv 0, iv 6] [])) (fun t k => XS.icmpNo X7.here hx rfl (hb hby d3_87) rfl (tlt (by decide)).2.2.2 k) ?_
  refine oS (B := T7.setTop (mkF m 91 #[rv b0, rv sa, iv 0, iv 6] [(.ref b0)])) (fun t k => XS.aloadN X7.here hx rfl (hb hby d3_90) rfl rfl k) ?_
  refine oS (B := T7.setTop (mkF m 92 #[rv b0, rv sa, iv 0, iv 6] [(.ref b0), (.ref b0)])) (fun t k => XS.aloadN X7.here hx rfl (hb hby d3_91) rfl rfl k) ?_
  obtain ⟨T9, X9, e9, st9⟩ := getF X7 hx hZ hown (host := "") (Or.inl (ow hw 12 rfl)) Via.refl e7 F_last_b0 (g := (mkF m 92 #[rv b0, rv sa, iv 0, iv 6] [(.ref b0), (.ref b0)])) rfl rfl (hb hby d3_92)
  refine oS (B := T9.setTop (mkF m 95 #[rv b0, rv sa, iv 0, iv 6] [(.ref em), (.ref b0)])) (fun t k => st9 t k) ?_
  refine oS (B := T9.setTop (mkF m 96 #[rv b0, rv sa, iv 0, iv 6] [(.ref b0), (.ref em), (.ref b0)])) (fun t k => XS.aloadN X9.here hx rfl (hb hby d3_95) rfl rfl k) ?_
  obtain ⟨T10, X10, e10, st10⟩ := getF X9 hx hZ hown (host := "") (Or.inl (ow hw 28 rfl)) Via.refl e9 F_lastLength_b0 (g := (mkF m 96 #[rv b0, rv sa, iv 0, iv 6] [(.ref b0), (.ref em), (.ref b0)])) rfl rfl (hb hby d3_96)
  refine oS (B := T10.setTop (mkF m 99 #[rv b0, rv sa, iv 0, iv 6] [(.int 0), (.ref em), (.ref b0)])) (fun t k => st10 t k) ?_
  refine oS (B := T10.setTop (mkF m 100 #[rv b0, rv sa, iv 0, iv 6] [(.int 6), (.int 0), (.ref em), (.ref b0)])) (fun t k => XS.iloadN X10.here hx rfl (hb hby d3_99) rfl k) ?_
  refine oS (B := T10.setTop (mkF m 101 #[rv b0, rv sa, iv 0, iv 6] [(.int 6), (.ref em), (.ref b0)])) (fun t k => XS.iadd X10.here hx rfl (hb hby d3_100) rfl k) ?_
  obtain ⟨_, _, ⟨T11, L11, k11, n11⟩, -, X11, ⟨Lc11, hQ11, l11, y11, z11⟩, st11⟩ := Jvm.LawKit.callS X10 hx (y := (⟨"com/example/loomwire/loomwire/transport/MessageBuffer", "chunkCapacity", "(I)I"⟩ : MethodName)) hown (mvT hZ (ow hw 59 rfl)) (mvT hZ (ow hw 60 rfl)) (mvT hZ (ow hw 3 rfl)) (mvT hZ (ow hw 61 rfl)) (by decide) (backOf (W := 2) (rm9_6 l Z a0 hw []   h0 n0 Z0 ) hZ (ow hw 61 rfl) (ow hw 3 rfl) (by decide) (by decide)) (g := (mkF m 101 #[rv b0, rv sa, iv 0, iv 6] [(.int 6), (.ref em), (.ref b0)])) rfl (by rw [hml]; rfl) (argsL := [(.int 6)]) (rest := [(.ref em), (.ref b0)]) (lenOf pd_0 rfl) rfl (by show 2 * 0 + _ ≤ _; exact Nat.le_of_eq rfl) (hb hby d3_101) (fun _ _ => ⟨rfl, e10, (by decide : 0 + 0 ≤ _), (by decide : 0 + 0 ≤ _)⟩)
  dsimp only [Pt.U, Pt.locs, Pt.cells, Pt.slots] at X11 l11 y11 z11 st11 hQ11
  subst l11 y11 z11
  obtain ⟨rfl, N11q, e11⟩ := hQ11
  have N0 := Fr.app N0 N11q
  refine oS (B := T11.setTop (mkF m 104 #[rv b0, rv sa, iv 0, iv 6] [(.int 8), (.ref em), (.ref b0)])) (fun t k => st11 t k) ?_
  have lt_b0 := E_b0.lt
  have lt_sa := V_sa.lt
  have KZ := K0
  obtain ⟨_, _, ⟨T12, L12, k12, n12⟩, -, X12, ⟨Lc12, hQ12, l12, y12, z12⟩, st12⟩ := Jvm.LawKit.callS X11 hx (y := (⟨"java/util/Arrays", "copyOf", "([BI)[B"⟩ : MethodName)) hown (mvT hZ (ow hw 40 rfl)) (mvT hZ (ow hw 41 rfl)) (mvT hZ (ow hw 42 rfl)) (mvT hZ (ow hw 43 rfl)) (by decide) (backOf (W := 1) (rmg_8 l Z a0 hw []  em ke de kd h0 n0 Z0 BB O0) hZ (ow hw 43 rfl) (ow hw 42 rfl) (by decide) (by decide)) (g := (mkF m 104 #[rv b0, rv sa, iv 0, iv 6] [(.int 8), (.ref em), (.ref b0)])) rfl (by rw [hml]; rfl) (argsL := [(.ref em), (.int 8)]) (rest := [(.ref b0)]) (lenOf pd_6 rfl) rfl (by show 2 * 0 + _ ≤ _; exact Nat.le_of_eq rfl) (hb hby d3_104) (fun _ _ => ⟨rfl, e11, (by decide : 0 + 1 ≤ _), (by decide : 0 + 8 ≤ _)⟩)
  dsimp only [Pt.U, Pt.locs, Pt.cells, Pt.slots] at X12 l12 y12 z12 st12 hQ12
  subst l12 y12 z12
  obtain ⟨la, kla, vla, rfl, N12q, K12, g_la, sz'_la, E_la, V_la, hlla⟩ := hQ12
  have N0 := Fr.app N0 N12q
  have E_b0 := E_b0.keep K12
  have F_full_b0 := F_full_b0.keep K12 nin0
  have F_last_b0 := F_last_b0.keep K12 nin0
  have F_lastLength_b0 := F_lastLength_b0.keep K12 nin0
  have F_length_b0 := F_length_b0.keep K12 nin0
  have V_sa := V_sa.keep K12 nin0
  have E_em := E_em.keep K12
  have V_em := V_em.keep K12 nin0
  have V_de := V_de.keep K12 nin0
  have Z0 := Nat.le_trans Z0 K12.1
  have O0 := O0.keep K12 all0
  have K0 := K0.trans K12 all0
  have ne_b0_la : b0 ≠ la := Nat.ne_of_lt (Nat.lt_of_lt_of_le lt_b0 sz'_la)
  have ne_sa_la : sa ≠ la := Nat.ne_of_lt (Nat.lt_of_lt_of_le lt_sa sz'_la)
  have sz_la : h0.size ≤ la := Nat.le_trans KZ.1 sz'_la
  refine oS (B := T12.setTop (mkF m 107 #[rv b0, rv sa, iv 0, iv 6] [(.ref la), (.ref b0)])) (fun t k => st12 t k) ?_
  obtain ⟨T13, h13, X13, e13, W13, st13⟩ := putF X12 hx hZ hown (host := "") (Or.inl (ow hw 12 rfl)) Via.refl rfl F_last_b0 E_b0 (Or.inl (ow hw 13 rfl)) (ow hw 2 rfl) (ty := (.array .byte)) (by decide) rfl rfl (g := (mkF m 107 #[rv b0, rv sa, iv 0, iv 6] [(.ref la), (.ref b0)])) rfl rfl (hb hby d3_107)
  have E_b0 := E_b0.wr W13
  have F_full_b0 := F_full_b0.other W13 (Or.inr (slot_ne (Or.inl (ow hw 27 rfl)) (Or.inl (ow hw 13 rfl)) (by decide) (t := (.object "java/util/List")) (t' := (.array .byte)) (by decide) (by decide)))
  have F_last_b0 := F_last_b0.same W13
  have F_lastLength_b0 := F_lastLength_b0.other W13 (Or.inr (slot_ne (Or.inl (ow hw 29 rfl)) (Or.inl (ow hw 13 rfl)) (by decide) (t := .int) (t' := (.array .byte)) (by decide) (by decide)))
  have F_length_b0 := F_length_b0.other W13 (Or.inr (slot_ne (Or.inl (ow hw 20 rfl)) (Or.inl (ow hw 13 rfl)) (by decide) (t := .int) (t' := (.array .byte)) (by decide) (by decide)))
  have V_sa := V_sa.other W13 (Ne.symm ne_b0_sa)
  have E_em := E_em.wr W13
  have V_em := V_em.other W13 (ne_exa E_em E_b0 (by decide))
  have V_de := V_de.other W13 (O0.ne BB.2.2.2.2.lt g_b0)
  have E_la := E_la.wr W13
  have V_la := V_la.other W13 (Ne.symm ne_b0_la)
  have Z0 := Nat.le_trans Z0 (Keep.of_wr W13).1
  have K0 := K0.wr W13 (Or.inl (List.mem_of_getElem? (i := 0) rfl))
  have N0 := Fr.snoc X13 N0 g_b0
  have O0 := O0.wr W13 g_b0
  refine oS (B := T13.setTop (mkF m 110 #[rv b0, rv sa, iv 0, iv 6] [])) (fun t k => st13 t k) ?_
  refine oS (B := T13.setTop (mkF m 111 #[rv b0, rv sa, iv 0, iv 6] [(.ref sa)])) (fun t k => XS.aloadN X13.here hx rfl (hb hby d3_110) rfl rfl k) ?_
  refine oS (B := T13.setTop (mkF m 112 #[rv b0, rv sa, iv 0, iv 6] [(.int 0), (.ref sa)])) (fun t k => XS.iloadN X13.here hx rfl (hb hby d3_111) rfl k) ?_
  refine oS (B := T13.setTop (mkF m 113 #[rv b0, rv sa, iv 0, iv 6] [(.ref b0), (.int 0), (.ref sa)])) (fun t k => XS.aloadN X13.here hx rfl (hb hby d3_112) rfl rfl k) ?_
  obtain ⟨T14, X14, e14, st14⟩ := getF X13 hx hZ hown (host := "") (Or.inl (ow hw 12 rfl)) Via.refl e13 F_last_b0 (g := (mkF m 113 #[rv b0, rv sa, iv 0, iv 6] [(.ref b0), (.int 0), (.ref sa)])) rfl rfl (hb hby d3_113)
  refine oS (B := T14.setTop (mkF m 116 #[rv b0, rv sa, iv 0, iv 6] [(.ref la), (.int 0), (.ref sa)])) (fun t k => st14 t k) ?_
  refine oS (B := T14.setTop (mkF m 117 #[rv b0, rv sa, iv 0, iv 6] [(.ref b0), (.ref la), (.int 0), (.ref sa)])) (fun t k => XS.aloadN X14.here hx rfl (hb hby d3_116) rfl rfl k) ?_
  obtain ⟨T15, X15, e15, st15⟩ := getF X14 hx hZ hown (host := "") (Or.inl (ow hw 28 rfl)) Via.refl e14 F_lastLength_b0 (g := (mkF m 117 #[rv b0, rv sa, iv 0, iv 6] [(.ref b0), (.ref la), (.int 0), (.ref sa)])) rfl rfl (hb hby d3_117)
  refine oS (B := T15.setTop (mkF m 120 #[rv b0, rv sa, iv 0, iv 6] [(.int 0), (.ref la), (.int 0), (.ref sa)])) (fun t k => st15 t k) ?_
  refine oS (B := T15.setTop (mkF m 121 #[rv b0, rv sa, iv 0, iv 6] [(.int 6), (.int 0), (.ref la), (.int 0), (.ref sa)])) (fun t k => XS.iloadN X15.here hx rfl (hb hby d3_120) rfl k) ?_
  obtain ⟨T16, h16, L16, X16, e16, N16q, K16, VC16, st16⟩ := cpA X15 hx hZ hown (ow hw 76 rfl) (ow hw 75 rfl) (ow hw 73 rfl) (ow hw 74 rfl) e15 V_sa V_la (Or.inl ⟨rfl, rfl⟩) (by decide) (by decide) (by decide) (by decide) (by decide) rfl (by rw [hlla]; decide) N0 g_la (g := (mkF m 121 #[rv b0, rv sa, iv 0, iv 6] [(.int 6), (.int 0), (.ref la), (.int 0), (.ref sa)])) rfl (by rw [hml]; rfl) rfl (hb hby d3_121) (by decide) (W := 0) (by show 2 * 0 + _ ≤ _; exact Nat.le_of_eq rfl) (by decide)
  have E_b0 := E_b0.keep K16
  have F_full_b0 := F_full_b0.keep K16 (ninS ne_b0_la nin0)
  have F_last_b0 := F_last_b0.keep K16 (ninS ne_b0_la nin0)
  have F_lastLength_b0 := F_lastLength_b0.keep K16 (ninS ne_b0_la nin0)
  have F_length_b0 := F_length_b0.keep K16 (ninS ne_b0_la nin0)
  have V_sa := V_sa.keep K16 (ninS ne_sa_la nin0)
  have E_em := E_em.keep K16
  have V_em := V_em.keep K16 (ninS (O0.ne BB.2.2.1.lt g_la) nin0)
  have V_de := V_de.keep K16 (ninS (O0.ne BB.2.2.2.2.lt g_la) nin0)
  have E_la := E_la.keep K16
  have Z0 := Nat.le_trans Z0 K16.1
  have O0 := O0.keep K16 (allS g_la all0)
  have K0 := K0.trans K16 (allS (Or.inr sz_la) all0)
  have N0 := N16q
  have V_la := VC16
  refine oS (B := T16.setTop (mkF m 124 #[rv b0, rv sa, iv 0, iv 6] [])) (fun t k => st16 t k) ?_
  refine oS (B := T16.setTop (mkF m 125 #[rv b0, rv sa, iv 0, iv 6] [(.ref b0)])) (fun t k => XS.aloadN X16.here hx rfl (hb hby d3_124) rfl rfl k) ?_
  refine oS (B := T16.setTop (mkF m 126 #[rv b0, rv sa, iv 0, iv 6] [(.ref b0), (.ref b0)])) (fun t k => XS.dup X16.here hx rfl (hb hby d3_125) rfl rfl k) ?_
  obtain ⟨T17, X17, e17, st17⟩ := getF X16 hx hZ hown (host := "") (Or.inl (ow hw 28 rfl)) Via.refl e16 F_lastLength_b0 (g := (mkF m 126 #[rv b0, rv sa, iv 0, iv 6] [(.ref b0), (.ref b0)])) rfl rfl (hb hby d3_126)
  refine oS (B := T17.setTop (mkF m 129 #[rv b0, rv sa, iv 0, iv 6] [(.int 0), (.ref b0)])) (fun t k => st17 t k) ?_
  refine oS (B := T17.setTop (mkF m 130 #[rv b0, rv sa, iv 0, iv 6] [(.int 6), (.int 0), (.ref b0)])) (fun t k => XS.iloadN X17.here hx rfl (hb hby d3_129) rfl k) ?_
  refine oS (B := T17.setTop (mkF m 131 #[rv b0, rv sa, iv 0, iv 6] [(.int 6), (.ref b0)])) (fun t k => XS.iadd X17.here hx rfl (hb hby d3_130) rfl k) ?_
  obtain ⟨T18, h18, X18, e18, W18, st18⟩ := putF X17 hx hZ hown (host := "") (Or.inl (ow hw 28 rfl)) Via.refl e17 F_lastLength_b0 E_b0 (Or.inl (ow hw 29 rfl)) (ow hw 2 rfl) (ty := .int) (by decide) rfl rfl (g := (mkF m 131 #[rv b0, rv sa, iv 0, iv 6] [(.int 6), (.ref b0)])) rfl rfl (hb hby d3_131)
  have E_b0 := E_b0.wr W18
  have F_full_b0 := F_full_b0.other W18 (Or.inr (slot_ne (Or.inl (ow hw 27 rfl)) (Or.inl (ow hw 29 rfl)) (by decide) (t := (.object "java/util/List")) (t' := .int) (by decide) (by decide)))
  have F_last_b0 := F_last_b0.other W18 (Or.inr (slot_ne (Or.inl (ow hw 13 rfl)) (Or.inl (ow hw 29 rfl)) (by decide) (t := (.array .byte)) (t' := .int) (by decide) (by decide)))
  have F_lastLength_b0 := F_lastLength_b0.same W18
  have F_length_b0 := F_length_b0.other W18 (Or.inr (slot_ne (Or.inl (ow hw 20 rfl)) (Or.inl (ow hw 29 rfl)) (by decide) (t := .int) (t' := .int) (by decide) (by decide)))
  have V_sa := V_sa.other W18 (Ne.symm ne_b0_sa)
  have E_em := E_em.wr W18
  have V_em := V_em.other W18 (ne_exa E_em E_b0 (by decide))
  have V_de := V_de.other W18 (O0.ne BB.2.2.2.2.lt g_b0)
  have E_la := E_la.wr W18
  have V_la := V_la.other W18 (Ne.symm ne_b0_la)
  have Z0 := Nat.le_trans Z0 (Keep.of_wr W18).1
  have K0 := K0.wr W18 (Or.inl (List.mem_of_getElem? (i := 0) rfl))
  have N0 := Fr.snoc X18 N0 g_b0
  have O0 := O0.wr W18 g_b0
  refine oS (B := T18.setTop (mkF m 134 #[rv b0, rv sa, iv 0, iv 6] [])) (fun t k => st18 t k) ?_
  refine oS (B := T18.setTop (mkF m 135 #[rv b0, rv sa, iv 0, iv 6] [(.int 0)])) (fun t k => XS.iloadN X18.here hx rfl (hb hby d3_134) rfl k) ?_
  refine oS (B := T18.setTop (mkF m 136 #[rv b0, rv sa, iv 0, iv 6] [(.int 6), (.int 0)])) (fun t k => XS.iloadN X18.here hx rfl (hb hby d3_135) rfl k) ?_
  refine oS (B := T18.setTop (mkF m 137 #[rv b0, rv sa, iv 0, iv 6] [(.int 6)])) (fun t k => XS.iadd X18.here hx rfl (hb hby d3_136) rfl k) ?_
  refine oS (B := T18.setTop (mkF m 138 #[rv b0, rv sa, iv 6, iv 6] [])) (fun t k => XS.istoreN X18.here hx rfl (hb hby d3_137) rfl (l' := #[rv b0, rv sa, iv 6, iv 6]) rfl k) ?_
  refine oS (B := T18.setTop (mkF m 2 #[rv b0, rv sa, iv 6, iv 6] [])) (fun t k => XS.goto X18.here hx rfl (pc0 := 138) (pc' := 2) rfl (hb hby d3_138) (by decide) (by decide) k) ?_
  refine oS (B := T18.setTop (mkF m 3 #[rv b0, rv sa, iv 6, iv 6] [(.int 6)])) (fun t k => XS.iloadN X18.here hx rfl (hb hby d3_2) rfl k) ?_
  refine oS (B := T18.setTop (mkF m 4 #[rv b0, rv sa, iv 6, iv 6] [(.ref sa), (.int 6)])) (fun t k => XS.aloadN X18.here hx rfl (hb hby d3_3) rfl rfl k) ?_
  have Vo_19 := V_sa
  obtain ⟨cl_19, Ar_19, q_19, S_19, M_19, H_19, G_19⟩ := Vo_19
  refine oS (B := T18.setTop (mkF m 5 #[rv b0, rv sa, iv 6, iv 6] [(.int 6), (.int 6)])) (fun t k => X18.arraylength hx (by rw [e18]; exact Ar_19.1) (State.isArrayOf_alike hZ.alike Ar_19.2.1) (g := (mkF m 4 #[rv b0, rv sa, iv 6, iv 6] [(.ref sa), (.int 6)])) rfl rfl (hb hby d3_4) t (by rw [len_of S_19 M_19]; exact k)) ?_
  refine oS (B := T18.setTop (mkF m 141 #[rv b0, rv sa, iv 6, iv 6] [])) (fun t k => XS.icmpYes X18.here hx rfl (pc0 := 5) (pc' := 141) rfl (hb hby d3_5) rfl (flt (by decide)).2.1 (by decide) (by decide) k) ?_
  refine oS (B := T18.setTop (mkF m 142 #[rv b0, rv sa, iv 6, iv 6] [(.ref b0)])) (fun t k => XS.aloadN X18.here hx rfl (hb hby d3_141) rfl rfl k) ?_
  refine oS (B := T18.setTop (mkF m 143 #[rv b0, rv sa, iv 6, iv 6] [(.ref b0), (.ref b0)])) (fun t k => XS.dup X18.here hx rfl (hb hby d3_142) rfl rfl k) ?_
  obtain ⟨T20, X20, e20, st20⟩ := getF X18 hx hZ hown (host := "") (Or.inl (ow hw 19 rfl)) Via.refl e18 F_length_b0 (g := (mkF m 143 #[rv b0, rv sa, iv 6, iv 6] [(.ref b0), (.ref b0)])) rfl rfl (hb hby d3_143)
  refine oS (B := T20.setTop (mkF m 146 #[rv b0, rv sa, iv 6, iv 6] [(.int 0), (.ref b0)])) (fun t k => st20 t k) ?_
  refine oS (B := T20.setTop (mkF m 147 #[rv b0, rv sa, iv 6, iv 6] [(.ref sa), (.int 0), (.ref b0)])) (fun t k => XS.aloadN X20.here hx rfl (hb hby d3_146) rfl rfl k) ?_
  have Vo_21 := V_sa
  obtain ⟨cl_21, Ar_21, q_21, S_21, M_21, H_21, G_21⟩ := Vo_21
  refine oS (B := T20.setTop (mkF m 148 #[rv b0, rv sa, iv 6, iv 6] [(.int 6), (.int 0), (.ref b0)])) (fun t k => X20.arraylength hx (by rw [e20]; exact Ar_21.1) (State.isArrayOf_alike hZ.alike Ar_21.2.1) (g := (mkF m 147 #[rv b0, rv sa, iv 6, iv 6] [(.ref sa), (.int 0), (.ref b0)])) rfl rfl (hb hby d3_147) t (by rw [len_of S_21 M_21]; exact k)) ?_
  refine oS (B := T20.setTop (mkF m 149 #[rv b0, rv sa, iv 6, iv 6] [(.int 6), (.ref b0)])) (fun t k => XS.iadd X20.here hx rfl (hb hby d3_148) rfl k) ?_
  obtain ⟨T22, h22, X22, e22, W22, st22⟩ := putF X20 hx hZ hown (host := "") (Or.inl (ow hw 19 rfl)) Via.refl e20 F_length_b0 E_b0 (Or.inl (ow hw 20 rfl)) (ow hw 2 rfl) (ty := .int) (by decide) rfl rfl (g := (mkF m 149 #[rv b0, rv sa, iv 6, iv 6] [(.int 6), (.ref b0)])) rfl rfl (hb hby d3_149)
  have E_b0 := E_b0.wr W22
  have F_full_b0 := F_full_b0.other W22 (Or.inr (slot_ne (Or.inl (ow hw 27 rfl)) (Or.inl (ow hw 20 rfl)) (by decide) (t := (.object "java/util/List")) (t' := .int) (by decide) (by decide)))
  have F_last_b0 := F_last_b0.other W22 (Or.inr (slot_ne (Or.inl (ow hw 13 rfl)) (Or.inl (ow hw 20 rfl)) (by decide) (t := (.array .byte)) (t' := .int) (by decide) (by decide)))
  have F_lastLength_b0 := F_lastLength_b0.other W22 (Or.inr (slot_ne (Or.inl (ow hw 29 rfl)) (Or.inl (ow hw 20 rfl)) (by decide) (t := .int) (t' := .int) (by decide) (by decide)))
  have F_length_b0 := F_length_b0.same W22
  have V_sa := V_sa.other W22 (Ne.symm ne_b0_sa)
  have E_em := E_em.wr W22
  have V_em := V_em.other W22 (ne_exa E_em E_b0 (by decide))
  have V_de := V_de.other W22 (O0.ne BB.2.2.2.2.lt g_b0)
  have E_la := E_la.wr W22
  have V_la := V_la.other W22 (Ne.symm ne_b0_la)
  have Z0 := Nat.le_trans Z0 (Keep.of_wr W22).1
  have K0 := K0.wr W22 (Or.inl (List.mem_of_getElem? (i := 0) rfl))
  have N0 := Fr.snoc X22 N0 g_b0
  have O0 := O0.wr W22 g_b0
  refine oS (B := T22.setTop (mkF m 152 #[rv b0, rv sa, iv 6, iv 6] [])) (fun t k => st22 t k) ?_
  exact own_retV X22 hx hlk Bd.returns (hb hby d3_152) (by decide) (by decide) (by rw [e22]; exact ⟨_, _, _, _, rfl, N0, K0, F_full_b0, F_last_b0, F_lastLength_b0, F_length_b0⟩)
theorem ef_rma_7 (m : MethodId) (x0 : Addr) (x1 : Addr) : entryFrame m #[(.ref x0), (.ref x1)] 4 = mkF m 0 #[rv x0, rv x1, .unset, .unset] [] := by first | (simp [entryFrame, mkF, argsToLocals, Value.category]; done) | rfl
def QQ_rma_7 (Z : State) (b0 : Addr) (sa : Addr) (em : Addr) (ke : ClassId) (de : Addr) (kd : ClassId) (ks : ClassId) (vs : List Value) (h0 : Heap) (n0 : Nat) (v : Option Value) (h : Heap) (L : List Loc) : Prop := ∃ vf vl vll vlen : Value, v = none ∧ Fr n0 L ∧ Keep h0 h [b0] ∧ Fld Z h b0 "com/example/loomwire/loomwire/transport/MessageBuffer" "full" "Ljava/util/List;" vf ∧ Fld Z h b0 "com/example/loomwire/loomwire/transport/MessageBuffer" "last" "[B" vl ∧ Fld Z h b0 "com/example/loomwire/loomwire/transport/MessageBuffer" "lastLength" "I" vll ∧ Fld Z h b0 "com/example/loomwire/loomwire/transport/MessageBuffer" "length" "I" vlen
set_option maxRecDepth 65536 in
set_option maxHeartbeats 40000000 in
theorem rma_7 (l : Launch) (Z : State) (a0 : Array Value) (hw : ∀ d ∈ tables_1, d.before a0 Z = true) (ws : List Jvm.Cond) (b0 : Addr) (sa : Addr) (em : Addr) (ke : ClassId) (de : Addr) (kd : ClassId) (ks : ClassId) (vs : List Value) (h0 : Heap) (n0 : Nat) (Z0 : n0 ≤ h0.size) (E_b0 : Exa Z h0 b0 "com/example/loomwire/loomwire/transport/MessageBuffer") (g_b0 : n0 ≤ b0) (F_full_b0 : Fld Z h0 b0 "com/example/loomwire/loomwire/transport/MessageBuffer" "full" "Ljava/util/List;" .null) (F_last_b0 : Fld Z h0 b0 "com/example/loomwire/loomwire/transport/MessageBuffer" "last" "[B" (.ref em)) (F_lastLength_b0 : Fld Z h0 b0 "com/example/loomwire/loomwire/transport/MessageBuffer" "lastLength" "I" (.int 0)) (F_length_b0 : Fld Z h0 b0 "com/example/loomwire/loomwire/transport/MessageBuffer" "length" "I" (.int 0)) (BB : own_Base Z em ke de kd) (O0 : Old Z n0 h0) (ne_b0_sa : b0 ≠ sa) (V_sa : Arv Z h0 sa ks .byte (7 : Int32) vs (.int 0)) :
    MetFree l (⟨"com/example/loomwire/loomwire/transport/MessageBuffer", "append", "([B)V"⟩ : MethodName) (head1 (Jvm.Cond.code (⟨"com/example/loomwire/loomwire/transport/MessageBuffer", "append", "([B)V"⟩ : MethodName) prog_102_method_4_code 4 none :: ws) ({ frames := 5, cells := 4, slots := 65551, locals := 80 } : Room)) (fun a U => a = #[(.ref b0), (.ref sa)] ∧ Z.Warmed39 U.vm ∧ U.heap = h0) (fun _ _ _ _ _ => True) (fun _ U o U' => ∃ v L, o = .returned v ∧ (QQ_rma_7 Z b0 sa em ke de kd ks vs h0 n0) v U'.heap L ∧ FrameEnd U o U' L ({ frames := 5, cells := 4, slots := 65551, locals := 80 } : Room).cells ({ frames := 5, cells := 4, slots := 65551, locals := 80 } : Room).slots) := by
  refine MetFree.of_bodySF (plainFor_of_name pn_com_example_loomwire_loomwire_transport_MessageBuffer) hisR ?_
  intro p e s m args below meth c s₁ Bd hml0 hP hK
  obtain ⟨rfl, hZ, hh⟩ := hP
  have hx := Bd.exec
  have hby := Bd.bytes
  have hlk : meth.locks = false := BodyLoose.notSynchronized Bd
  have hml : c.maxLocals = 4 := hml0
  have hown : s.vm.findClass "com/example/loomwire/loomwire/transport/MessageBuffer" = some m.cls := findClass_of_methodNamed Bd.named
  have hnm := (name_of_methodNamed Bd.named Bd.method).1
  have X0 : Stand p l e ({ frames := 5, cells := 4, slots := 65551, locals := 80 } : Room) s m #[(.ref b0), (.ref sa)] below meth c s₁ [] 0 0 := Stand.of_body Bd
  have e0 : s₁.heap = h0 := by rw [← hh, Bd.state]; rfl
  have N0 := Fr.nil n0
  show own_G p.tables e below s (QQ_rma_7 Z b0 sa em ke de kd ks vs h0 n0) ({ frames := 5, cells := 4, slots := 65551, locals := 80 } : Room).cells ({ frames := 5, cells := 4, slots := 65551, locals := 80 } : Room).slots (s₁.setTop (entryFrame m #[(.ref b0), (.ref sa)] 4))
  refine oS (B := s₁.setTop (mkF m 0 #[rv b0, rv sa, .unset, .unset] [])) (fun t k => castTop (ef_rma_7 m b0 sa) k) ?_
  have V_em := BB.2.2.1.ext O0.2
  have E_em := BB.2.1.ext O0.2
  have V_de := BB.2.2.2.2.ext O0.2
  have K0 := Keep.refl h0 [b0]
  refine oS (B := s₁.setTop (mkF m 1 #[rv b0, rv sa, .unset, .unset] [(.int 0)])) (fun t k => XS.iconst X0.here hx rfl (hb hby d3_0) k) ?_
  refine oS (B := s₁.setTop (mkF m 2 #[rv b0, rv sa, iv 0, .unset] [])) (fun t k => XS.istoreN X0.here hx rfl (hb hby d3_1) rfl (l' := #[rv b0, rv sa, iv 0, .unset]) rfl k) ?_
  refine oS (B := s₁.setTop (mkF m 3 #[rv b0, rv sa, iv 0, .unset] [(.int 0)])) (fun t k => XS.iloadN X0.here hx rfl (hb hby d3_2) rfl k) ?_
  refine oS (B := s₁.setTop (mkF m 4 #[rv b0, rv sa, iv 0, .unset] [(.ref sa), (.int 0)])) (fun t k => XS.aloadN X0.here hx rfl (hb hby d3_3) rfl rfl k) ?_
  have Vo_1 := V_sa
  obtain ⟨cl_1, Ar_1, q_1, S_1, M_1, H_1, G_1⟩ := Vo_1
  refine oS (B := s₁.setTop (mkF m 5 #[rv b0, rv sa, iv 0, .unset] [(.int 7), (.int 0)])) (fun t k => X0.arraylength hx (by rw [e0]; exact Ar_1.1) (State.isArrayOf_alike hZ.alike Ar_1.2.1) (g := (mkF m 4 #[rv b0, rv sa, iv 0, .unset] [(.ref sa), (.int 0)])) rfl rfl (hb hby d3_4) t (by rw [len_of S_1 M_1]; exact k)) ?_
  refine oS (B := s₁.setTop (mkF m 8 #[rv b0, rv sa, iv 0, .unset] [])) (fun t k => XS.icmpNo X0.here hx rfl (hb hby d3_5) rfl (tlt (by decide)).2.1 k) ?_
  refine oS (B := s₁.setTop (mkF m 9 #[rv b0, rv sa, iv 0, .unset] [(.ref b0)])) (fun t k => XS.aloadN X0.here hx rfl (hb hby d3_8) rfl rfl k) ?_
  obtain ⟨T2, X2, e2, st2⟩ := getF X0 hx hZ hown (host := "") (Or.inl (ow hw 28 rfl)) Via.refl e0 F_lastLength_b0 (g := (mkF m 9 #[rv b0, rv sa, iv 0, .unset] [(.ref b0)])) rfl rfl (hb hby d3_9)
  refine oS (B := T2.setTop (mkF m 12 #[rv b0, rv sa, iv 0, .unset] [(.int 0)])) (fun t k => st2 t k) ?_
  refine oS (B := T2.setTop (mkF m 14 #[rv b0, rv sa, iv 0, .unset] [(.int 65536), (.int 0)])) (fun t k => X2.ldcInt hx hown (mvT hZ (ow hw 54 rfl)) (g := (mkF m 12 #[rv b0, rv sa, iv 0, .unset] [(.int 0)])) rfl (hb hby d3_12) t k) ?_
  refine oS (B := T2.setTop (mkF m 61 #[rv b0, rv sa, iv 0, .unset] [])) (fun t k => XS.icmpYes X2.here hx rfl (pc0 := 14) (pc' := 61) rfl (hb hby d3_14) rfl (feq (by decide)).2 (by decide) (by decide) k) ?_
  refine oS (B := T2.setTop (mkF m 62 #[rv b0, rv sa, iv 0, .unset] [(.ref sa)])) (fun t k => XS.aloadN X2.here hx rfl (hb hby d3_61) rfl rfl k) ?_
  have Vo_3 := V_sa
  obtain ⟨cl_3, Ar_3, q_3, S_3, M_3, H_3, G_3⟩ := Vo_3
  refine oS (B := T2.setTop (mkF m 63 #[rv b0, rv sa, iv 0, .unset] [(.int 7)])) (fun t k => X2.arraylength hx (by rw [e2]; exact Ar_3.1) (State.isArrayOf_alike hZ.alike Ar_3.2.1) (g := (mkF m 62 #[rv b0, rv sa, iv 0, .unset] [(.ref sa)])) rfl rfl (hb hby d3_62) t (by rw [len_of S_3 M_3]; exact k)) ?_
  refine oS (B := T2.setTop (mkF m 64 #[rv b0, rv sa, iv 0, .unset] [(.int 0), (.int 7)])) (fun t k => XS.iloadN X2.here hx rfl (hb hby d3_63) rfl k) ?_
  refine oS (B := T2.setTop (mkF m 65 #[rv b0, rv sa, iv 0, .unset] [(.int 7)])) (fun t k => XS.isub X2.here hx rfl (hb hby d3_64) rfl k) ?_
  refine oS (B := T2.setTop (mkF m 67 #[rv b0, rv sa, iv 0, .unset] [(.int 65536), (.int 7)])) (fun t k => X2.ldcInt hx hown (mvT hZ (ow hw 54 rfl)) (g := (mkF m 65 #[rv b0, rv sa, iv 0, .unset] [(.int 7)])) rfl (hb hby d3_65) t k) ?_
  refine oS (B := T2.setTop (mkF m 68 #[rv b0, rv sa, iv 0, .unset] [(.ref b0), (.int 65536), (.int 7)])) (fun t k => XS.aloadN X2.here hx rfl (hb hby d3_67) rfl rfl k) ?_
  obtain ⟨T4, X4, e4, st4⟩ := getF X2 hx hZ hown (host := "") (Or.inl (ow hw 28 rfl)) Via.refl e2 F_lastLength_b0 (g := (mkF m 68 #[rv b0, rv sa, iv 0, .unset] [(.ref b0), (.int 65536), (.int 7)])) rfl rfl (hb hby d3_68)
  refine oS (B := T4.setTop (mkF m 71 #[rv b0, rv sa, iv 0, .unset] [(.int 0), (.int 65536), (.int 7)])) (fun t k => st4 t k) ?_
  refine oS (B := T4.setTop (mkF m 72 #[rv b0, rv sa, iv 0, .unset] [(.int 65536), (.int 7)])) (fun t k => XS.isub X4.here hx rfl (hb hby d3_71) rfl k) ?_
  obtain ⟨_, _, ⟨T5, L5, k5, n5⟩, -, X5, ⟨Lc5, hQ5, l5, y5, z5⟩, st5⟩ := Jvm.LawKit.callS X4 hx (y := (⟨"java/lang/Math", "min", "(II)I"⟩ : MethodName)) hown (mvT hZ (ow hw 55 rfl)) (mvT hZ (ow hw 56 rfl)) (mvT hZ (ow hw 57 rfl)) (mvT hZ (ow hw 58 rfl)) (by decide) (backOf (W := 0) (rm8 l Z a0 hw [] (7 : Int32) (65536 : Int32)  h0 n0 Z0 ) hZ (ow hw 58 rfl) (ow hw 57 rfl) (by decide) (by decide)) (g := (mkF m 72 #[rv b0, rv sa, iv 0, .unset] [(.int 65536), (.int 7)])) rfl (by rw [hml]; rfl) (argsL := [(.int 7), (.int 65536)]) (rest := []) (lenOf pd_1 rfl) rfl (by show 2 * 0 + _ ≤ _; exact Nat.le_of_eq rfl) (hb hby d3_72) (fun _ _ => ⟨rfl, e4, (by decide : 0 + 0 ≤ _), (by decide : 0 + 0 ≤ _)⟩)
  dsimp only [Pt.U, Pt.locs, Pt.cells, Pt.slots] at X5 l5 y5 z5 st5 hQ5
  subst l5 y5 z5
  obtain ⟨rfl, N5q, e5⟩ := hQ5
  have N0 := Fr.app N0 N5q
  refine oS (B := T5.setTop (mkF m 75 #[rv b0, rv sa, iv 0, .unset] [(.int (own_min (7 : Int32) (65536 : Int32)))])) (fun t k => st5 t k) ?_
  have hlit5 : (own_min (7 : Int32) (65536 : Int32)) = (7 : Int32) := by decide
  rw [hlit5]
  refine oS (B := T5.setTop (mkF m 76 #[rv b0, rv sa, iv 0, iv 7] [])) (fun t k => XS.istoreN X5.here hx rfl (hb hby d3_75) rfl (l' := #[rv b0, rv sa, iv 0, iv 7]) rfl k) ?_
  refine oS (B := T5.setTop (mkF m 77 #[rv b0, rv sa, iv 0, iv 7] [(.ref b0)])) (fun t k => XS.aloadN X5.here hx rfl (hb hby d3_76) rfl rfl k) ?_
  obtain ⟨T6, X6, e6, st6⟩ := getF X5 hx hZ hown (host := "") (Or.inl (ow hw 28 rfl)) Via.refl e5 F_lastLength_b0 (g := (mkF m 77 #[rv b0, rv sa, iv 0, iv 7] [(.ref b0)])) rfl rfl (hb hby d3_77)
  refine oS (B := T6.setTop (mkF m 80 #[rv b0, rv sa, iv 0, iv 7] [(.int 0)])) (fun t k => st6 t k) ?_
  refine oS (B := T6.setTop (mkF m 81 #[rv b0, rv sa, iv 0, iv 7] [(.int 7), (.int 0)])) (fun t k => XS.iloadN X6.here hx rfl (hb hby d3_80) rfl k) ?_
  refine oS (B := T6.setTop (mkF m 82 #[rv b0, rv sa, iv 0, iv 7] [(.int 7)])) (fun t k => XS.iadd X6.here hx rfl (hb hby d3_81) rfl k) ?_
  refine oS (B := T6.setTop (mkF m 83 #[rv b0, rv sa, iv 0, iv 7] [(.ref b0), (.int 7)])) (fun t k => XS.aloadN X6.here hx rfl (hb hby d3_82) rfl rfl k) ?_
  obtain ⟨T7, X7, e7, st7⟩ := getF X6 hx hZ hown (host := "") (Or.inl (ow hw 12 rfl)) Via.refl e6 F_last_b0 (g := (mkF m 83 #[rv b0, rv sa, iv 0, iv 7] [(.ref b0), (.int 7)])) rfl rfl (hb hby d3_83)
  refine oS (B := T7.setTop (mkF m 86 #[rv b0, rv sa, iv 0, iv 7] [(.ref em), (.int 7)])) (fun t k => st7 t k) ?_
  have Vo_8 := V_em
  obtain ⟨cl_8, Ar_8, q_8, S_8, M_8, H_8, G_8⟩ := Vo_8
  refine oS (B := T7.setTop (mkF m 87 #[rv b0, rv sa, iv 0, iv 7] [(.int 0), (.int 7)])) (fun t k => X7.arraylength hx (by rw [e7]; exact Ar_8.1) (State.isArrayOf_alike hZ.alike Ar_8.2.1) (g := (mkF m 86 #[rv b0, rv sa, iv 0, iv 7] [(.ref em), (.int 7)])) rfl rfl (hb hby d3_86) t (by rw [len_of S_8 M_8]; exact k)) ?_
  refine oS (B := T7.setTop (mkF m 90 #[rv b0, rv sa, iv 0, iv 7] [])) (fun t k => XS.icmpNo X7.here hx rfl (hb hby d3_87) rfl (tlt (by decide)).2.2.2 k) ?_
  refine oS (B := T7.setTop (mkF m 91 #[rv b0, rv sa, iv 0, iv 7] [(.ref b0)])) (fun t k => XS.aloadN X7.here hx rfl (hb hby d3_90) rfl rfl k) ?_
  refine oS (B := T7.setTop (mkF m 92 #[rv b0, rv sa, iv 0, iv 7] [(.ref b0), (.ref b0)])) (fun t k => XS.aloadN X7.here hx rfl (hb hby d3_91) rfl rfl k) ?_
  obtain ⟨T9, X9, e9, st9⟩ := getF X7 hx hZ hown (host := "") (Or.inl (ow hw 12 rfl)) Via.refl e7 F_last_b0 (g := (mkF m 92 #[rv b0, rv sa, iv 0, iv 7] [(.ref b0), (.ref b0)])) rfl rfl (hb hby d3_92)
  refine oS (B := T9.setTop (mkF m 95 #[rv b0, rv sa, iv 0, iv 7] [(.ref em), (.ref b0)])) (fun t k => st9 t k) ?_
  refine oS (B := T9.setTop (mkF m 96 #[rv b0, rv sa, iv 0, iv 7] [(.ref b0), (.ref em), (.ref b0)])) (fun t k => XS.aloadN X9.here hx rfl (hb hby d3_95) rfl rfl k) ?_
  obtain ⟨T10, X10, e10, st10⟩ := getF X9 hx hZ hown (host := "") (Or.inl (ow hw 28 rfl)) Via.refl e9 F_lastLength_b0 (g := (mkF m 96 #[rv b0, rv sa, iv 0, iv 7] [(.ref b0), (.ref em), (.ref b0)])) rfl rfl (hb hby d3_96)
  refine oS (B := T10.setTop (mkF m 99 #[rv b0, rv sa, iv 0, iv 7] [(.int 0), (.ref em), (.ref b0)])) (fun t k => st10 t k) ?_
  refine oS (B := T10.setTop (mkF m 100 #[rv b0, rv sa, iv 0, iv 7] [(.int 7), (.int 0), (.ref em), (.ref b0)])) (fun t k => XS.iloadN X10.here hx rfl (hb hby d3_99) rfl k) ?_
  refine oS (B := T10.setTop (mkF m 101 #[rv b0, rv sa, iv 0, iv 7] [(.int 7), (.ref em), (.ref b0)])) (fun t k => XS.iadd X10.here hx rfl (hb hby d3_100) rfl k) ?_
  obtain ⟨_, _, ⟨T11, L11, k11, n11⟩, -, X11, ⟨Lc11, hQ11, l11, y11, z11⟩, st11⟩ := Jvm.LawKit.callS X10 hx (y := (⟨"com/example/loomwire/loomwire/transport/MessageBuffer", "chunkCapacity", "(I)I"⟩ : MethodName)) hown (mvT hZ (ow hw 59 rfl)) (mvT hZ (ow hw 60 rfl)) (mvT hZ (ow hw 3 rfl)) (mvT hZ (ow hw 61 rfl)) (by decide) (backOf (W := 2) (rm9_7 l Z a0 hw []   h0 n0 Z0 ) hZ (ow hw 61 rfl) (ow hw 3 rfl) (by decide) (by decide)) (g := (mkF m 101 #[rv b0, rv sa, iv 0, iv 7] [(.int 7), (.ref em), (.ref b0)])) rfl (by rw [hml]; rfl) (argsL := [(.int 7)]) (rest := [(.ref em), (.ref b0)]) (lenOf pd_0 rfl) rfl (by show 2 * 0 + _ ≤ _; exact Nat.le_of_eq rfl) (hb hby d3_101) (fun _ _ => ⟨rfl, e10, (by decide : 0 + 0 ≤ _), (by decide : 0 + 0 ≤ _)⟩)
  dsimp only [Pt.U, Pt.locs, Pt.cells, Pt.slots] at X11 l11 y11 z11 st11 hQ11
  subst l11 y11 z11
  obtain ⟨rfl, N11q, e11⟩ := hQ11
  have N0 := Fr.app N0 N11q
  refine oS (B := T11.setTop (mkF m 104 #[rv b0, rv sa, iv 0, iv 7] [(.int 8), (.ref em), (.ref b0)])) (fun t k => st11 t k) ?_
  have lt_b0 := E_b0.lt
  have lt_sa := V_sa.lt
  have KZ := K0
  obtain ⟨_, _, ⟨T12, L12, k12, n12⟩, -, X12, ⟨Lc12, hQ12, l12, y12, z12⟩, st12⟩ := Jvm.LawKit.callS X11 hx (y := (⟨"java/util/Arrays", "copyOf", "([BI)[B"⟩ : MethodName)) hown (mvT hZ (ow hw 40 rfl)) (mvT hZ (ow hw 41 rfl)) (mvT hZ (ow hw 42 rfl)) (mvT hZ (ow hw 43 rfl)) (by decide) (backOf (W := 1) (rmg_8 l Z a0 hw []  em ke de kd h0 n0 Z0 BB O0) hZ (ow hw 43 rfl) (ow hw 42 rfl) (by decide) (by decide)) (g := (mkF m 104 #[rv b0, rv sa, iv 0, iv 7] [(.int 8), (.ref em), (.ref b0)])) rfl (by rw [hml]; rfl) (argsL := [(.ref em), (.int 8)]) (rest := [(.ref b0)]) (lenOf pd_6 rfl) rfl (by show 2 * 0 + _ ≤ _; exact Nat.le_of_eq rfl) (hb hby d3_104) (fun _ _ => ⟨rfl, e11, (by decide : 0 + 1 ≤ _), (by decide : 0 + 8 ≤ _)⟩)
  dsimp only [Pt.U, Pt.locs, Pt.cells, Pt.slots] at X12 l12 y12 z12 st12 hQ12
  subst l12 y12 z12
  obtain ⟨la, kla, vla, rfl, N12q, K12, g_la, sz'_la, E_la, V_la, hlla⟩ := hQ12
  have N0 := Fr.app N0 N12q
  have E_b0 := E_b0.keep K12
  have F_full_b0 := F_full_b0.keep K12 nin0
  have F_last_b0 := F_last_b0.keep K12 nin0
  have F_lastLength_b0 := F_lastLength_b0.keep K12 nin0
  have F_length_b0 := F_length_b0.keep K12 nin0
  have V_sa := V_sa.keep K12 nin0
  have E_em := E_em.keep K12
  have V_em := V_em.keep K12 nin0
  have V_de := V_de.keep K12 nin0
  have Z0 := Nat.le_trans Z0 K12.1
  have O0 := O0.keep K12 all0
  have K0 := K0.trans K12 all0
  have ne_b0_la : b0 ≠ la := Nat.ne_of_lt (Nat.lt_of_lt_of_le lt_b0 sz'_la)
  have ne_sa_la : sa ≠ la := Nat.ne_of_lt (Nat.lt_of_lt_of_le lt_sa sz'_la)
  have sz_la : h0.size ≤ la := Nat.le_trans KZ.1 sz'_la
  refine oS (B := T12.setTop (mkF m 107 #[rv b0, rv sa, iv 0, iv 7] [(.ref la), (.ref b0)])) (fun t k => st12 t k) ?_
  obtain ⟨T13, h13, X13, e13, W13, st13⟩ := putF X12 hx hZ hown (host := "") (Or.inl (ow hw 12 rfl)) Via.refl rfl F_last_b0 E_b0 (Or.inl (ow hw 13 rfl)) (ow hw 2 rfl) (ty := (.array .byte)) (by decide) rfl rfl (g := (mkF m 107 #[rv b0, rv sa, iv 0, iv 7] [(.ref la), (.ref b0)])) rfl rfl (hb hby d3_107)
  have E_b0 := E_b0.wr W13
  have F_full_b0 := F_full_b0.other W13 (Or.inr (slot_ne (Or.inl (ow hw 27 rfl)) (Or.inl (ow hw 13 rfl)) (by decide) (t := (.object "java/util/List")) (t' := (.array .byte)) (by decide) (by decide)))
  have F_last_b0 := F_last_b0.same W13
  have F_lastLength_b0 := F_lastLength_b0.other W13 (Or.inr (slot_ne (Or.inl (ow hw 29 rfl)) (Or.inl (ow hw 13 rfl)) (by decide) (t := .int) (t' := (.array .byte)) (by decide) (by decide)))
  have F_length_b0 := F_length_b0.other W13 (Or.inr (slot_ne (Or.inl (ow hw 20 rfl)) (Or.inl (ow hw 13 rfl)) (by decide) (t := .int) (t' := (.array .byte)) (by decide) (by decide)))
  have V_sa := V_sa.other W13 (Ne.symm ne_b0_sa)
  have E_em := E_em.wr W13
  have V_em := V_em.other W13 (ne_exa E_em E_b0 (by decide))
  have V_de := V_de.other W13 (O0.ne BB.2.2.2.2.lt g_b0)
  have E_la := E_la.wr W13
  have V_la := V_la.other W13 (Ne.symm ne_b0_la)
  have Z0 := Nat.le_trans Z0 (Keep.of_wr W13).1
  have K0 := K0.wr W13 (Or.inl (List.mem_of_getElem? (i := 0) rfl))
  have N0 := Fr.snoc X13 N0 g_b0
  have O0 := O0.wr W13 g_b0
  refine oS (B := T13.setTop (mkF m 110 #[rv b0, rv sa, iv 0, iv 7] [])) (fun t k => st13 t k) ?_
  refine oS (B := T13.setTop (mkF m 111 #[rv b0, rv sa, iv 0, iv 7] [(.ref sa)])) (fun t k => XS.aloadN X13.here hx rfl (hb hby d3_110) rfl rfl k) ?_
  refine oS (B := T13.setTop (mkF m 112 #[rv b0, rv sa, iv 0, iv 7] [(.int 0), (.ref sa)])) (fun t k => XS.iloadN X13.here hx rfl (hb hby d3_111) rfl k) ?_
  refine oS (B := T13.setTop (mkF m 113 #[rv b0, rv sa, iv 0, iv 7] [(.ref b0), (.int 0), (.ref sa)])) (fun t k => XS.aloadN X13.here hx rfl (hb hby d3_112) rfl rfl k) ?_
  obtain ⟨T14, X14, e14, st14⟩ := getF X13 hx hZ hown (host := "") (Or.inl (ow hw 12 rfl)) Via.refl e13 F_last_b0 (g := (mkF m 113 #[rv b0, rv sa, iv 0, iv 7] [(.ref b0), (.int 0), (.ref sa)])) rfl rfl (hb hby d3_113)
  refine oS (B := T14.setTop (mkF m 116 #[rv b0, rv sa, iv 0, iv 7] [(.ref la), (.int 0), (.ref sa)])) (fun t k => st14 t k) ?_
  refine oS (B := T14.setTop (mkF m 117 #[rv b0, rv sa, iv 0, iv 7] [(.ref b0), (.ref la), (.int 0), (.ref sa)])) (fun t k => XS.aloadN X14.here hx rfl (hb hby d3_116) rfl rfl k) ?_
  obtain ⟨T15, X15, e15, st15⟩ := getF X14 hx hZ hown (host := "") (Or.inl (ow hw 28 rfl)) Via.refl e14 F_lastLength_b0 (g := (mkF m 117 #[rv b0, rv sa, iv 0, iv 7] [(.ref b0), (.ref la), (.int 0), (.ref sa)])) rfl rfl (hb hby d3_117)
  refine oS (B := T15.setTop (mkF m 120 #[rv b0, rv sa, iv 0, iv 7] [(.int 0), (.ref la), (.int 0), (.ref sa)])) (fun t k => st15 t k) ?_
  refine oS (B := T15.setTop (mkF m 121 #[rv b0, rv sa, iv 0, iv 7] [(.int 7), (.int 0), (.ref la), (.int 0), (.ref sa)])) (fun t k => XS.iloadN X15.here hx rfl (hb hby d3_120) rfl k) ?_
  obtain ⟨T16, h16, L16, X16, e16, N16q, K16, VC16, st16⟩ := cpA X15 hx hZ hown (ow hw 76 rfl) (ow hw 75 rfl) (ow hw 73 rfl) (ow hw 74 rfl) e15 V_sa V_la (Or.inl ⟨rfl, rfl⟩) (by decide) (by decide) (by decide) (by decide) (by decide) rfl (by rw [hlla]; decide) N0 g_la (g := (mkF m 121 #[rv b0, rv sa, iv 0, iv 7] [(.int 7), (.int 0), (.ref la), (.int 0), (.ref sa)])) rfl (by rw [hml]; rfl) rfl (hb hby d3_121) (by decide) (W := 0) (by show 2 * 0 + _ ≤ _; exact Nat.le_of_eq rfl) (by decide)
  have E_b0 := E_b0.keep K16
  have F_full_b0 := F_full_b0.keep K16 (ninS ne_b0_la nin0)
  have F_last_b0 := F_last_b0.keep K16 (ninS ne_b0_la nin0)
  have F_lastLength_b0 := F_lastLength_b0.keep K16 (ninS ne_b0_la nin0)
  have F_length_b0 := F_length_b0.keep K16 (ninS ne_b0_la nin0)
  have V_sa := V_sa.keep K16 (ninS ne_sa_la nin0)
  have E_em := E_em.keep K16
  have V_em := V_em.keep K16 (ninS (O0.ne BB.2.2.1.lt g_la) nin0)
  have V_de := V_de.keep K16 (ninS (O0.ne BB.2.2.2.2.lt g_la) nin0)
  have E_la := E_la.keep K16
  have Z0 := Nat.le_trans Z0 K16.1
  have O0 := O0.keep K16 (allS g_la all0)
  have K0 := K0.trans K16 (allS (Or.inr sz_la) all0)
  have N0 := N16q
  have V_la := VC16
  refine oS (B := T16.setTop (mkF m 124 #[rv b0, rv sa, iv 0, iv 7] [])) (fun t k => st16 t k) ?_
  refine oS (B := T16.setTop (mkF m 125 #[rv b0, rv sa, iv 0, iv 7] [(.ref b0)])) (fun t k => XS.aloadN X16.here hx rfl (hb hby d3_124) rfl rfl k) ?_
  refine oS (B := T16.setTop (mkF m 126 #[rv b0, rv sa, iv 0, iv 7] [(.ref b0), (.ref b0)])) (fun t k => XS.dup X16.here hx rfl (hb hby d3_125) rfl rfl k) ?_
  obtain ⟨T17, X17, e17, st17⟩ := getF X16 hx hZ hown (host := "") (Or.inl (ow hw 28 rfl)) Via.refl e16 F_lastLength_b0 (g := (mkF m 126 #[rv b0, rv sa, iv 0, iv 7] [(.ref b0), (.ref b0)])) rfl rfl (hb hby d3_126)
  refine oS (B := T17.setTop (mkF m 129 #[rv b0, rv sa, iv 0, iv 7] [(.int 0), (.ref b0)])) (fun t k => st17 t k) ?_
  refine oS (B := T17.setTop (mkF m 130 #[rv b0, rv sa, iv 0, iv 7] [(.int 7), (.int 0), (.ref b0)])) (fun t k => XS.iloadN X17.here hx rfl (hb hby d3_129) rfl k) ?_
  refine oS (B := T17.setTop (mkF m 131 #[rv b0, rv sa, iv 0, iv 7] [(.int 7), (.ref b0)])) (fun t k => XS.iadd X17.here hx rfl (hb hby d3_130) rfl k) ?_
  obtain ⟨T18, h18, X18, e18, W18, st18⟩ := putF X17 hx hZ hown (host := "") (Or.inl (ow hw 28 rfl)) Via.refl e17 F_lastLength_b0 E_b0 (Or.inl (ow hw 29 rfl)) (ow hw 2 rfl) (ty := .int) (by decide) rfl rfl (g := (mkF m 131 #[rv b0, rv sa, iv 0, iv 7] [(.int 7), (.ref b0)])) rfl rfl (hb hby d3_131)
  have E_b0 := E_b0.wr W18
  have F_full_b0 := F_full_b0.other W18 (Or.inr (slot_ne (Or.inl (ow hw 27 rfl)) (Or.inl (ow hw 29 rfl)) (by decide) (t := (.object "java/util/List")) (t' := .int) (by decide) (by decide)))
  have F_last_b0 := F_last_b0.other W18 (Or.inr (slot_ne (Or.inl (ow hw 13 rfl)) (Or.inl (ow hw 29 rfl)) (by decide) (t := (.array .byte)) (t' := .int) (by decide) (by decide)))
  have F_lastLength_b0 := F_lastLength_b0.same W18
  have F_length_b0 := F_length_b0.other W18 (Or.inr (slot_ne (Or.inl (ow hw 20 rfl)) (Or.inl (ow hw 29 rfl)) (by decide) (t := .int) (t' := .int) (by decide) (by decide)))
  have V_sa := V_sa.other W18 (Ne.symm ne_b0_sa)
  have E_em := E_em.wr W18
  have V_em := V_em.other W18 (ne_exa E_em E_b0 (by decide))
  have V_de := V_de.other W18 (O0.ne BB.2.2.2.2.lt g_b0)
  have E_la := E_la.wr W18
  have V_la := V_la.other W18 (Ne.symm ne_b0_la)
  have Z0 := Nat.le_trans Z0 (Keep.of_wr W18).1
  have K0 := K0.wr W18 (Or.inl (List.mem_of_getElem? (i := 0) rfl))
  have N0 := Fr.snoc X18 N0 g_b0
  have O0 := O0.wr W18 g_b0
  refine oS (B := T18.setTop (mkF m 134 #[rv b0, rv sa, iv 0, iv 7] [])) (fun t k => st18 t k) ?_
  refine oS (B := T18.setTop (mkF m 135 #[rv b0, rv sa, iv 0, iv 7] [(.int 0)])) (fun t k => XS.iloadN X18.here hx rfl (hb hby d3_134) rfl k) ?_
  refine oS (B := T18.setTop (mkF m 136 #[rv b0, rv sa, iv 0, iv 7] [(.int 7), (.int 0)])) (fun t k => XS.iloadN X18.here hx rfl (hb hby d3_135) rfl k) ?_
  refine oS (B := T18.setTop (mkF m 137 #[rv b0, rv sa, iv 0, iv 7] [(.int 7)])) (fun t k => XS.iadd X18.here hx rfl (hb hby d3_136) rfl k) ?_
  refine oS (B := T18.setTop (mkF m 138 #[rv b0, rv sa, iv 7, iv 7] [])) (fun t k => XS.istoreN X18.here hx rfl (hb hby d3_137) rfl (l' := #[rv b0, rv sa, iv 7, iv 7]) rfl k) ?_
  refine oS (B := T18.setTop (mkF m 2 #[rv b0, rv sa, iv 7, iv 7] [])) (fun t k => XS.goto X18.here hx rfl (pc0 := 138) (pc' := 2) rfl (hb hby d3_138) (by decide) (by decide) k) ?_
  refine oS (B := T18.setTop (mkF m 3 #[rv b0, rv sa, iv 7, iv 7] [(.int 7)])) (fun t k => XS.iloadN X18.here hx rfl (hb hby d3_2) rfl k) ?_
  refine oS (B := T18.setTop (mkF m 4 #[rv b0, rv sa, iv 7, iv 7] [(.ref sa), (.int 7)])) (fun t k => XS.aloadN X18.here hx rfl (hb hby d3_3) rfl rfl k) ?_
  have Vo_19 := V_sa
  obtain ⟨cl_19, Ar_19, q_19, S_19, M_19, H_19, G_19⟩ := Vo_19
  refine oS (B := T18.setTop (mkF m 5 #[rv b0, rv sa, iv 7, iv 7] [(.int 7), (.int 7)])) (fun t k => X18.arraylength hx (by rw [e18]; exact Ar_19.1) (State.isArrayOf_alike hZ.alike Ar_19.2.1) (g := (mkF m 4 #[rv b0, rv sa, iv 7, iv 7] [(.ref sa), (.int 7)])) rfl rfl (hb hby d3_4) t (by rw [len_of S_19 M_19]; exact k)) ?_
  refine oS (B := T18.setTop (mkF m 141 #[rv b0, rv sa, iv 7, iv 7] [])) (fun t k => XS.icmpYes X18.here hx rfl (pc0 := 5) (pc' := 141) rfl (hb hby d3_5) rfl (flt (by decide)).2.1 (by decide) (by decide) k) ?_
  refine oS (B := T18.setTop (mkF m 142 #[rv b0, rv sa, iv 7, iv 7] [(.ref b0)])) (fun t k => XS.aloadN X18.here hx rfl (hb hby d3_141) rfl rfl k) ?_
  refine oS (B := T18.setTop (mkF m 143 #[rv b0, rv sa, iv 7, iv 7] [(.ref b0), (.ref b0)])) (fun t k => XS.dup X18.here hx rfl (hb hby d3_142) rfl rfl k) ?_
  obtain ⟨T20, X20, e20, st20⟩ := getF X18 hx hZ hown (host := "") (Or.inl (ow hw 19 rfl)) Via.refl e18 F_length_b0 (g := (mkF m 143 #[rv b0, rv sa, iv 7, iv 7] [(.ref b0), (.ref b0)])) rfl rfl (hb hby d3_143)
  refine oS (B := T20.setTop (mkF m 146 #[rv b0, rv sa, iv 7, iv 7] [(.int 0), (.ref b0)])) (fun t k => st20 t k) ?_
  refine oS (B := T20.setTop (mkF m 147 #[rv b0, rv sa, iv 7, iv 7] [(.ref sa), (.int 0), (.ref b0)])) (fun t k => XS.aloadN X20.here hx rfl (hb hby d3_146) rfl rfl k) ?_
  have Vo_21 := V_sa
  obtain ⟨cl_21, Ar_21, q_21, S_21, M_21, H_21, G_21⟩ := Vo_21
  refine oS (B := T20.setTop (mkF m 148 #[rv b0, rv sa, iv 7, iv 7] [(.int 7), (.int 0), (.ref b0)])) (fun t k => X20.arraylength hx (by rw [e20]; exact Ar_21.1) (State.isArrayOf_alike hZ.alike Ar_21.2.1) (g := (mkF m 147 #[rv b0, rv sa, iv 7, iv 7] [(.ref sa), (.int 0), (.ref b0)])) rfl rfl (hb hby d3_147) t (by rw [len_of S_21 M_21]; exact k)) ?_
  refine oS (B := T20.setTop (mkF m 149 #[rv b0, rv sa, iv 7, iv 7] [(.int 7), (.ref b0)])) (fun t k => XS.iadd X20.here hx rfl (hb hby d3_148) rfl k) ?_
  obtain ⟨T22, h22, X22, e22, W22, st22⟩ := putF X20 hx hZ hown (host := "") (Or.inl (ow hw 19 rfl)) Via.refl e20 F_length_b0 E_b0 (Or.inl (ow hw 20 rfl)) (ow hw 2 rfl) (ty := .int) (by decide) rfl rfl (g := (mkF m 149 #[rv b0, rv sa, iv 7, iv 7] [(.int 7), (.ref b0)])) rfl rfl (hb hby d3_149)
  have E_b0 := E_b0.wr W22
  have F_full_b0 := F_full_b0.other W22 (Or.inr (slot_ne (Or.inl (ow hw 27 rfl)) (Or.inl (ow hw 20 rfl)) (by decide) (t := (.object "java/util/List")) (t' := .int) (by decide) (by decide)))
  have F_last_b0 := F_last_b0.other W22 (Or.inr (slot_ne (Or.inl (ow hw 13 rfl)) (Or.inl (ow hw 20 rfl)) (by decide) (t := (.array .byte)) (t' := .int) (by decide) (by decide)))
  have F_lastLength_b0 := F_lastLength_b0.other W22 (Or.inr (slot_ne (Or.inl (ow hw 29 rfl)) (Or.inl (ow hw 20 rfl)) (by decide) (t := .int) (t' := .int) (by decide) (by decide)))
  have F_length_b0 := F_length_b0.same W22
  have V_sa := V_sa.other W22 (Ne.symm ne_b0_sa)
  have E_em := E_em.wr W22
  have V_em := V_em.other W22 (ne_exa E_em E_b0 (by decide))
  have V_de := V_de.other W22 (O0.ne BB.2.2.2.2.lt g_b0)
  have E_la := E_la.wr W22
  have V_la := V_la.other W22 (Ne.symm ne_b0_la)
  have Z0 := Nat.le_trans Z0 (Keep.of_wr W22).1
  have K0 := K0.wr W22 (Or.inl (List.mem_of_getElem? (i := 0) rfl))
  have N0 := Fr.snoc X22 N0 g_b0
  have O0 := O0.wr W22 g_b0
  refine oS (B := T22.setTop (mkF m 152 #[rv b0, rv sa, iv 7, iv 7] [])) (fun t k => st22 t k) ?_
  exact own_retV X22 hx hlk Bd.returns (hb hby d3_152) (by decide) (by decide) (by rw [e22]; exact ⟨_, _, _, _, rfl, N0, K0, F_full_b0, F_last_b0, F_lastLength_b0, F_length_b0⟩)
theorem d3_17 : decode prog_102_method_4_code 17 = .ok (.aload_n 0, 1) := by decide +kernel
theorem d3_18 : decode prog_102_method_4_code 18 = .ok (.getfield 30, 3) := by decide +kernel
theorem d3_21 : decode prog_102_method_4_code 21 = .ok (.ifnonnull 14, 3) := by decide +kernel
theorem d3_24 : decode prog_102_method_4_code 24 = .ok (.aload_n 0, 1) := by decide +kernel
theorem d3_25 : decode prog_102_method_4_code 25 = .ok (.new 34, 3) := by decide +kernel
theorem d3_28 : decode prog_102_method_4_code 28 = .ok (.dup, 1) := by decide +kernel
theorem d3_29 : decode prog_102_method_4_code 29 = .ok (.invokespecial 36, 3) := by decide +kernel
theorem d3_32 : decode prog_102_method_4_code 32 = .ok (.putfield 30, 3) := by decide +kernel
theorem d3_35 : decode prog_102_method_4_code 35 = .ok (.aload_n 0, 1) := by decide +kernel
theorem d3_36 : decode prog_102_method_4_code 36 = .ok (.getfield 30, 3) := by decide +kernel
theorem d3_39 : decode prog_102_method_4_code 39 = .ok (.aload_n 0, 1) := by decide +kernel
theorem d3_40 : decode prog_102_method_4_code 40 = .ok (.getfield 13, 3) := by decide +kernel
theorem d3_43 : decode prog_102_method_4_code 43 = .ok (.invokeinterface 37 2, 5) := by decide +kernel
theorem d3_48 : decode prog_102_method_4_code 48 = .ok (.pop, 1) := by decide +kernel
theorem d3_49 : decode prog_102_method_4_code 49 = .ok (.aload_n 0, 1) := by decide +kernel
theorem d3_50 : decode prog_102_method_4_code 50 = .ok (.getstatic 7, 3) := by decide +kernel
theorem d3_53 : decode prog_102_method_4_code 53 = .ok (.putfield 13, 3) := by decide +kernel
theorem d3_56 : decode prog_102_method_4_code 56 = .ok (.aload_n 0, 1) := by decide +kernel
theorem d3_57 : decode prog_102_method_4_code 57 = .ok (.iconst 0, 1) := by decide +kernel
theorem d3_58 : decode prog_102_method_4_code 58 = .ok (.putfield 26, 3) := by decide +kernel
theorem ef_rma_65537 (m : MethodId) (x0 : Addr) (x1 : Addr) : entryFrame m #[(.ref x0), (.ref x1)] 4 = mkF m 0 #[rv x0, rv x1, .unset, .unset] [] := by first | (simp [entryFrame, mkF, argsToLocals, Value.category]; done) | rfl
def QQ_rma_65537 (Z : State) (b0 : Addr) (sa : Addr) (em : Addr) (ke : ClassId) (de : Addr) (kd : ClassId) (ks : ClassId) (vs : List Value) (h0 : Heap) (n0 : Nat) (v : Option Value) (h : Heap) (L : List Loc) : Prop := ∃ vf vl vll vlen : Value, v = none ∧ Fr n0 L ∧ Keep h0 h [b0] ∧ Fld Z h b0 "com/example/loomwire/loomwire/transport/MessageBuffer" "full" "Ljava/util/List;" vf ∧ Fld Z h b0 "com/example/loomwire/loomwire/transport/MessageBuffer" "last" "[B" vl ∧ Fld Z h b0 "com/example/loomwire/loomwire/transport/MessageBuffer" "lastLength" "I" vll ∧ Fld Z h b0 "com/example/loomwire/loomwire/transport/MessageBuffer" "length" "I" vlen
set_option maxRecDepth 65536 in
set_option maxHeartbeats 40000000 in
theorem rma_65537 (l : Launch) (Z : State) (a0 : Array Value) (hw : ∀ d ∈ tables_1, d.before a0 Z = true) (ws : List Jvm.Cond) (b0 : Addr) (sa : Addr) (em : Addr) (ke : ClassId) (de : Addr) (kd : ClassId) (ks : ClassId) (vs : List Value) (h0 : Heap) (n0 : Nat) (Z0 : n0 ≤ h0.size) (E_b0 : Exa Z h0 b0 "com/example/loomwire/loomwire/transport/MessageBuffer") (g_b0 : n0 ≤ b0) (F_full_b0 : Fld Z h0 b0 "com/example/loomwire/loomwire/transport/MessageBuffer" "full" "Ljava/util/List;" .null) (F_last_b0 : Fld Z h0 b0 "com/example/loomwire/loomwire/transport/MessageBuffer" "last" "[B" (.ref em)) (F_lastLength_b0 : Fld Z h0 b0 "com/example/loomwire/loomwire/transport/MessageBuffer" "lastLength" "I" (.int 0)) (F_length_b0 : Fld Z h0 b0 "com/example/loomwire/loomwire/transport/MessageBuffer" "length" "I" (.int 0)) (BB : own_Base Z em ke de kd) (O0 : Old Z n0 h0) (ne_b0_sa : b0 ≠ sa) (V_sa : Arv Z h0 sa ks .byte (65537 : Int32) vs (.int 0)) :
    MetFree l (⟨"com/example/loomwire/loomwire/transport/MessageBuffer", "append", "([B)V"⟩ : MethodName) (head1 (Jvm.Cond.code (⟨"com/example/loomwire/loomwire/transport/MessageBuffer", "append", "([B)V"⟩ : MethodName) prog_102_method_4_code 4 none :: ws) ({ frames := 5, cells := 4, slots := 65551, locals := 80 } : Room)) (fun a U => a = #[(.ref b0), (.ref sa)] ∧ Z.Warmed39 U.vm ∧ U.heap = h0) (fun _ _ _ _ _ => True) (fun _ U o U' => ∃ v L, o = .returned v ∧ (QQ_rma_65537 Z b0 sa em ke de kd ks vs h0 n0) v U'.heap L ∧ FrameEnd U o U' L ({ frames := 5, cells := 4, slots := 65551, locals := 80 } : Room).cells ({ frames := 5, cells := 4, slots := 65551, locals := 80 } : Room).slots) := by
  refine MetFree.of_bodySF (plainFor_of_name pn_com_example_loomwire_loomwire_transport_MessageBuffer) hisR ?_
  intro p e s m args below meth c s₁ Bd hml0 hP hK
  obtain ⟨rfl, hZ, hh⟩ := hP
  have hx := Bd.exec
  have hby := Bd.bytes
  have hlk : meth.locks = false := BodyLoose.notSynchronized Bd
  have hml : c.maxLocals = 4 := hml0
  have hown : s.vm.findClass "com/example/loomwire/loomwire/transport/MessageBuffer" = some m.cls := findClass_of_methodNamed Bd.named
  have hnm := (name_of_methodNamed Bd.named Bd.method).1
  have X0 : Stand p l e ({ frames := 5, cells := 4, slots := 65551, locals := 80 } : Room) s m #[(.ref b0), (.ref sa)] below meth c s₁ [] 0 0 := Stand.of_body Bd
  have e0 : s₁.heap = h0 := by rw [← hh, Bd.state]; rfl
  have N0 := Fr.nil n0
  show own_G p.tables e below s (QQ_rma_65537 Z b0 sa em ke de kd ks vs h0 n0) ({ frames := 5, cells := 4, slots := 65551, locals := 80 } : Room).cells ({ frames := 5, cells := 4, slots := 65551, locals := 80 } : Room).slots (s₁.setTop (entryFrame m #[(.ref b0), (.ref sa)] 4))
  refine oS (B := s₁.setTop (mkF m 0 #[rv b0, rv sa, .unset, .unset] [])) (fun t k => castTop (ef_rma_65537 m b0 sa) k) ?_
  have V_em := BB.2.2.1.ext O0.2
  have E_em := BB.2.1.ext O0.2
  have V_de := BB.2.2.2.2.ext O0.2
  have K0 := Keep.refl h0 [b0]
  refine oS (B := s₁.setTop (mkF m 1 #[rv b0, rv sa, .unset, .unset] [(.int 0)])) (fun t k => XS.iconst X0.here hx rfl (hb hby d3_0) k) ?_
  refine oS (B := s₁.setTop (mkF m 2 #[rv b0, rv sa, iv 0, .unset] [])) (fun t k => XS.istoreN X0.here hx rfl (hb hby d3_1) rfl (l' := #[rv b0, rv sa, iv 0, .unset]) rfl k) ?_
  refine oS (B := s₁.setTop (mkF m 3 #[rv b0, rv sa, iv 0, .unset] [(.int 0)])) (fun t k => XS.iloadN X0.here hx rfl (hb hby d3_2) rfl k) ?_
  refine oS (B := s₁.setTop (mkF m 4 #[rv b0, rv sa, iv 0, .unset] [(.ref sa), (.int 0)])) (fun t k => XS.aloadN X0.here hx rfl (hb hby d3_3) rfl rfl k) ?_
  have Vo_1 := V_sa
  obtain ⟨cl_1, Ar_1, q_1, S_1, M_1, H_1, G_1⟩ := Vo_1
  refine oS (B := s₁.setTop (mkF m 5 #[rv b0, rv sa, iv 0, .unset] [(.int 65537), (.int 0)])) (fun t k => X0.arraylength hx (by rw [e0]; exact Ar_1.1) (State.isArrayOf_alike hZ.alike Ar_1.2.1) (g := (mkF m 4 #[rv b0, rv sa, iv 0, .unset] [(.ref sa), (.int 0)])) rfl rfl (hb hby d3_4) t (by rw [len_of S_1 M_1]; exact k)) ?_
  refine oS (B := s₁.setTop (mkF m 8 #[rv b0, rv sa, iv 0, .unset] [])) (fun t k => XS.icmpNo X0.here hx rfl (hb hby d3_5) rfl (tlt (by decide)).2.1 k) ?_
  refine oS (B := s₁.setTop (mkF m 9 #[rv b0, rv sa, iv 0, .unset] [(.ref b0)])) (fun t k => XS.aloadN X0.here hx rfl (hb hby d3_8) rfl rfl k) ?_
  obtain ⟨T2, X2, e2, st2⟩ := getF X0 hx hZ hown (host := "") (Or.inl (ow hw 28 rfl)) Via.refl e0 F_lastLength_b0 (g := (mkF m 9 #[rv b0, rv sa, iv 0, .unset] [(.ref b0)])) rfl rfl (hb hby d3_9)
  refine oS (B := T2.setTop (mkF m 12 #[rv b0, rv sa, iv 0, .unset] [(.int 0)])) (fun t k => st2 t k) ?_
  refine oS (B := T2.setTop (mkF m 14 #[rv b0, rv sa, iv 0, .unset] [(.int 65536), (.int 0)])) (fun t k => X2.ldcInt hx hown (mvT hZ (ow hw 54 rfl)) (g := (mkF m 12 #[rv b0, rv sa, iv 0, .unset] [(.int 0)])) rfl (hb hby d3_12) t k) ?_
  refine oS (B := T2.setTop (mkF m 61 #[rv b0, rv sa, iv 0, .unset] [])) (fun t k => XS.icmpYes X2.here hx rfl (pc0 := 14) (pc' := 61) rfl (hb hby d3_14) rfl (feq (by decide)).2 (by decide) (by decide) k) ?_
  refine oS (B := T2.setTop (mkF m 62 #[rv b0, rv sa, iv 0, .unset] [(.ref sa)])) (fun t k => XS.aloadN X2.here hx rfl (hb hby d3_61) rfl rfl k) ?_
  have Vo_3 := V_sa
  obtain ⟨cl_3, Ar_3, q_3, S_3, M_3, H_3, G_3⟩ := Vo_3
  refine oS (B := T2.setTop (mkF m 63 #[rv b0, rv sa, iv 0, .unset] [(.int 65537)])) (fun t k => X2.arraylength hx (by rw [e2]; exact Ar_3.1) (State.isArrayOf_alike hZ.alike Ar_3.2.1) (g := (mkF m 62 #[rv b0, rv sa, iv 0, .unset] [(.ref sa)])) rfl rfl (hb hby d3_62) t (by rw [len_of S_3 M_3]; exact k)) ?_
  refine oS (B := T2.setTop (mkF m 64 #[rv b0, rv sa, iv 0, .unset] [(.int 0), (.int 65537)])) (fun t k => XS.iloadN X2.here hx rfl (hb hby d3_63) rfl k) ?_
  refine oS (B := T2.setTop (mkF m 65 #[rv b0, rv sa, iv 0, .unset] [(.int 65537)])) (fun t k => XS.isub X2.here hx rfl (hb hby d3_64) rfl k) ?_
  refine oS (B := T2.setTop (mkF m 67 #[rv b0, rv sa, iv 0, .unset] [(.int 65536), (.int 65537)])) (fun t k => X2.ldcInt hx hown (mvT hZ (ow hw 54 rfl)) (g := (mkF m 65 #[rv b0, rv sa, iv 0, .unset] [(.int 65537)])) rfl (hb hby d3_65) t k) ?_
  refine oS (B := T2.setTop (mkF m 68 #[rv b0, rv sa, iv 0, .unset] [(.ref b0), (.int 65536), (.int 65537)])) (fun t k => XS.aloadN X2.here hx rfl (hb hby d3_67) rfl rfl k) ?_
  obtain ⟨T4, X4, e4, st4⟩ := getF X2 hx hZ hown (host := "") (Or.inl (ow hw 28 rfl)) Via.refl e2 F_lastLength_b0 (g := (mkF m 68 #[rv b0, rv sa, iv 0, .unset] [(.ref b0), (.int 65536), (.int 65537)])) rfl rfl (hb hby d3_68)
  refine oS (B := T4.setTop (mkF m 71 #[rv b0, rv sa, iv 0, .unset] [(.int 0), (.int 65536), (.int 65537)])) (fun t k => st4 t k) ?_
  refine oS (B := T4.setTop (mkF m 72 #[rv b0, rv sa, iv 0, .unset] [(.int 65536), (.int 65537)])) (fun t k => XS.isub X4.here hx rfl (hb hby d3_71) rfl k) ?_
  obtain ⟨_, _, ⟨T5, L5, k5, n5⟩, -, X5, ⟨Lc5, hQ5, l5, y5, z5⟩, st5⟩ := Jvm.LawKit.callS X4 hx (y := (⟨"java/lang/Math", "min", "(II)I"⟩ : MethodName)) hown (mvT hZ (ow hw 55 rfl)) (mvT hZ (ow hw 56 rfl)) (mvT hZ (ow hw 57 rfl)) (mvT hZ (ow hw 58 rfl)) (by decide) (backOf (W := 0) (rm8 l Z a0 hw [] (65537 : Int32) (65536 : Int32)  h0 n0 Z0 ) hZ (ow hw 58 rfl) (ow hw 57 rfl) (by decide) (by decide)) (g := (mkF m 72 #[rv b0, rv sa, iv 0, .unset] [(.int 65536), (.int 65537)])) rfl (by rw [hml]; rfl) (argsL := [(.int 65537), (.int 65536)]) (rest := []) (lenOf pd_1 rfl) rfl (by show 2 * 0 + _ ≤ _; exact Nat.le_of_eq rfl) (hb hby d3_72) (fun _ _ => ⟨rfl, e4, (by decide : 0 + 0 ≤ _), (by decide : 0 + 0 ≤ _)⟩)
  dsimp only [Pt.U, Pt.locs, Pt.cells, Pt.slots] at X5 l5 y5 z5 st5 hQ5
  subst l5 y5 z5
  obtain ⟨rfl, N5q, e5⟩ := hQ5
  have N0 := Fr.app N0 N5q
  refine oS (B := T5.setTop (mkF m 75 #[rv b0, rv sa, iv 0, .unset] [(.int (own_min (65537 : Int32) (65536 : Int32)))])) (fun t k => st5 t k) ?_
  have hlit5 : (own_min (65537 : Int32) (65536 : Int32)) = (65536 : Int32) := by decide
  rw [hlit5]
  refine oS (B := T5.setTop (mkF m 76 #[rv b0, rv sa, iv 0, iv 65536] [])) (fun t k => XS.istoreN X5.here hx rfl (hb hby d3_75) rfl (l' := #[rv b0, rv sa, iv 0, iv 65536]) rfl k) ?_
  refine oS (B := T5.setTop (mkF m 77 #[rv b0, rv sa, iv 0, iv 65536] [(.ref b0)])) (fun t k => XS.aloadN X5.here hx rfl (hb hby d3_76) rfl rfl k) ?_
  obtain ⟨T6, X6, e6, st6⟩ := getF X5 hx hZ hown (host := "") (Or.inl (ow hw 28 rfl)) Via.refl e5 F_lastLength_b0 (g := (mkF m 77 #[rv b0, rv sa, iv 0, iv 65536] [(.ref b0)])) rfl rfl (hb hby d3_77)
  refine oS (B := T6.setTop (mkF m 80 #[rv b0, rv sa, iv 0, iv 65536] [(.int 0)])) (fun t k => st6 t k) ?_
  refine oS (B := T6.setTop (mkF m 81 #[rv b0, rv sa, iv 0, iv 65536] [(.int 65536), (.int 0)])) (fun t k => XS.iloadN X6.here hx rfl (hb hby d3_80) rfl k) ?_
  refine oS (B := T6.setTop (mkF m 82 #[rv b0, rv sa, iv 0, iv 65536] [(.int 65536)])) (fun t k => XS.iadd X6.here hx rfl (hb hby d3_81) rfl k) ?_
  refine oS (B := T6.setTop (mkF m 83 #[rv b0, rv sa, iv 0, iv 65536] [(.ref b0), (.int 65536)])) (fun t k => XS.aloadN X6.here hx rfl (hb hby d3_82) rfl rfl k) ?_
  obtain ⟨T7, X7, e7, st7⟩ := getF X6 hx hZ hown (host := "") (Or.inl (ow hw 12 rfl)) Via.refl e6 F_last_b0 (g := (mkF m 83 #[rv b0, rv sa, iv 0, iv 65536] [(.ref b0), (.int 65536)])) rfl rfl (hb hby d3_83)
  refine oS (B := T7.setTop (mkF m 86 #[rv b0, rv sa, iv 0, iv 65536] [(.ref em), (.int 65536)])) (fun t k => st7 t k) ?_
  have Vo_8 := V_em
  obtain ⟨cl_8, Ar_8, q_8, S_8, M_8, H_8, G_8⟩ := Vo_8
  refine oS (B := T7.setTop (mkF m 87 #[rv b0, rv sa, iv 0, iv 65536] [(.int 0), (.int 65536)])) (fun t k => X7.arraylength hx (by rw [e7]; exact Ar_8.1) (State.isArrayOf_alike hZ.alike Ar_8.2.1) (g := (mkF m 86 #[rv b0, rv sa, iv 0, iv 65536] [(.ref em), (.int 65536)])) rfl rfl (hb hby d3_86) t (by rw [len_of S_8 M_8]; exact k)) ?_
  refine oS (B := T7.setTop (mkF m 90 #[rv b0, rv sa, iv 0, iv 65536] [])) (fun t k => XS.icmpNo X7.here hx rfl (hb hby d3_87) rfl (tlt (by decide)).2.2.2 k) ?_
  refine oS (B := T7.setTop (mkF m 91 #[rv b0, rv sa, iv 0, iv 65536] [(.ref b0)])) (fun t k => XS.aloadN X7.here hx rfl (hb hby d3_90) rfl rfl k) ?_
  refine oS (B := T7.setTop (mkF m 92 #[rv b0, rv sa, iv 0, iv 65536] [(.ref b0), (.ref b0)])) (fun t k => XS.aloadN X7.here hx rfl (hb hby d3_91) rfl rfl k) ?_
  obtain ⟨T9, X9, e9, st9⟩ := getF X7 hx hZ hown (host := "") (Or.inl (ow hw 12 rfl)) Via.refl e7 F_last_b0 (g := (mkF m 92 #[rv b0, rv sa, iv 0, iv 65536] [(.ref b0), (.ref b0)])) rfl rfl (hb hby d3_92)
  refine oS (B := T9.setTop (mkF m 95 #[rv b0, rv sa, iv 0, iv 65536] [(.ref em), (.ref b0)])) (fun t k => st9 t k) ?_
  refine oS (B := T9.setTop (mkF m 96 #[rv b0, rv sa, iv 0, iv 65536] [(.ref b0), (.ref em), (.ref b0)])) (fun t k => XS.aloadN X9.here hx rfl (hb hby d3_95) rfl rfl k) ?_
  obtain ⟨T10, X10, e10, st10⟩ := getF X9 hx hZ hown (host := "") (Or.inl (ow hw 28 rfl)) Via.refl e9 F_lastLength_b0 (g := (mkF m 96 #[rv b0, rv sa, iv 0, iv 65536] [(.ref b0), (.ref em), (.ref b0)])) rfl rfl (hb hby d3_96)
  refine oS (B := T10.setTop (mkF m 99 #[rv b0, rv sa, iv 0, iv 65536] [(.int 0), (.ref em), (.ref b0)])) (fun t k => st10 t k) ?_
  refine oS (B := T10.setTop (mkF m 100 #[rv b0, rv sa, iv 0, iv 65536] [(.int 65536), (.int 0), (.ref em), (.ref b0)])) (fun t k => XS.iloadN X10.here hx rfl (hb hby d3_99) rfl k) ?_
  refine oS (B := T10.setTop (mkF m 101 #[rv b0, rv sa, iv 0, iv 65536] [(.int 65536), (.ref em), (.ref b0)])) (fun t k => XS.iadd X10.here hx rfl (hb hby d3_100) rfl k) ?_
  obtain ⟨_, _, ⟨T11, L11, k11, n11⟩, -, X11, ⟨Lc11, hQ11, l11, y11, z11⟩, st11⟩ := Jvm.LawKit.callS X10 hx (y := (⟨"com/example/loomwire/loomwire/transport/MessageBuffer", "chunkCapacity", "(I)I"⟩ : MethodName)) hown (mvT hZ (ow hw 59 rfl)) (mvT hZ (ow hw 60 rfl)) (mvT hZ (ow hw 3 rfl)) (mvT hZ (ow hw 61 rfl)) (by decide) (backOf (W := 2) (rm9_65536 l Z a0 hw []   h0 n0 Z0 ) hZ (ow hw 61 rfl) (ow hw 3 rfl) (by decide) (by decide)) (g := (mkF m 101 #[rv b0, rv sa, iv 0, iv 65536] [(.int 65536), (.ref em), (.ref b0)])) rfl (by rw [hml]; rfl) (argsL := [(.int 65536)]) (rest := [(.ref em), (.ref b0)]) (lenOf pd_0 rfl) rfl (by show 2 * 0 + _ ≤ _; exact Nat.le_of_eq rfl) (hb hby d3_101) (fun _ _ => ⟨rfl, e10, (by decide : 0 + 0 ≤ _), (by decide : 0 + 0 ≤ _)⟩)
  dsimp only [Pt.U, Pt.locs, Pt.cells, Pt.slots] at X11 l11 y11 z11 st11 hQ11
  subst l11 y11 z11
  obtain ⟨rfl, N11q, e11⟩ := hQ11
  have N0 := Fr.app N0 N11q
  refine oS (B := T11.setTop (mkF m 104 #[rv b0, rv sa, iv 0, iv 65536] [(.int 65536), (.ref em), (.ref b0)])) (fun t k => st11 t k) ?_
  have lt_b0 := E_b0.lt
  have lt_sa := V_sa.lt
  have KZ := K0
  obtain ⟨_, _, ⟨T12, L12, k12, n12⟩, -, X12, ⟨Lc12, hQ12, l12, y12, z12⟩, st12⟩ := Jvm.LawKit.callS X11 hx (y := (⟨"java/util/Arrays", "copyOf", "([BI)[B"⟩ : MethodName)) hown (mvT hZ (ow hw 40 rfl)) (mvT hZ (ow hw 41 rfl)) (mvT hZ (ow hw 42 rfl)) (mvT hZ (ow hw 43 rfl)) (by decide) (backOf (W := 1) (rmg_65536 l Z a0 hw []  em ke de kd h0 n0 Z0 BB O0) hZ (ow hw 43 rfl) (ow hw 42 rfl) (by decide) (by decide)) (g := (mkF m 104 #[rv b0, rv sa, iv 0, iv 65536] [(.int 65536), (.ref em), (.ref b0)])) rfl (by rw [hml]; rfl) (argsL := [(.ref em), (.int 65536)]) (rest := [(.ref b0)]) (lenOf pd_6 rfl) rfl (by show 2 * 0 + _ ≤ _; exact Nat.le_of_eq rfl) (hb hby d3_104) (fun _ _ => ⟨rfl, e11, (by decide : 0 + 1 ≤ _), (by decide : 0 + 65536 ≤ _)⟩)
  dsimp only [Pt.U, Pt.locs, Pt.cells, Pt.slots] at X12 l12 y12 z12 st12 hQ12
  subst l12 y12 z12
  obtain ⟨la, kla, vla, rfl, N12q, K12, g_la, sz'_la, E_la, V_la, hlla⟩ := hQ12
  have N0 := Fr.app N0 N12q
  have E_b0 := E_b0.keep K12
  have F_full_b0 := F_full_b0.keep K12 nin0
  have F_last_b0 := F_last_b0.keep K12 nin0
  have F_lastLength_b0 := F_lastLength_b0.keep K12 nin0
  have F_length_b0 := F_length_b0.keep K12 nin0
  have V_sa := V_sa.keep K12 nin0
  have E_em := E_em.keep K12
  have V_em := V_em.keep K12 nin0
  have V_de := V_de.keep K12 nin0
  have Z0 := Nat.le_trans Z0 K12.1
  have O0 := O0.keep K12 all0
  have K0 := K0.trans K12 all0
  have ne_b0_la : b0 ≠ la := Nat.ne_of_lt (Nat.lt_of_lt_of_le lt_b0 sz'_la)
  have ne_sa_la : sa ≠ la := Nat.ne_of_lt (Nat.lt_of_lt_of_le lt_sa sz'_la)
  have sz_la : h0.size ≤ la := Nat.le_trans KZ.1 sz'_la
  refine oS (B := T12.setTop (mkF m 107 #[rv b0, rv sa, iv 0, iv 65536] [(.ref la), (.ref b0)])) (fun t k => st12 t k) ?_
  obtain ⟨T13, h13, X13, e13, W13, st13⟩ := putF X12 hx hZ hown (host := "") (Or.inl (ow hw 12 rfl)) Via.refl rfl F_last_b0 E_b0 (Or.inl (ow hw 13 rfl)) (ow hw 2 rfl) (ty := (.array .byte)) (by decide) rfl rfl (g := (mkF m 107 #[rv b0, rv sa, iv 0, iv 65536] [(.ref la), (.ref b0)])) rfl rfl (hb hby d3_107)
  have E_b0 := E_b0.wr W13
  have F_full_b0 := F_full_b0.other W13 (Or.inr (slot_ne (Or.inl (ow hw 27 rfl)) (Or.inl (ow hw 13 rfl)) (by decide) (t := (.object "java/util/List")) (t' := (.array .byte)) (by decide) (by decide)))
  have F_last_b0 := F_last_b0.same W13
  have F_lastLength_b0 := F_lastLength_b0.other W13 (Or.inr (slot_ne (Or.inl (ow hw 29 rfl)) (Or.inl (ow hw 13 rfl)) (by decide) (t := .int) (t' := (.array .byte)) (by decide) (by decide)))
  have F_length_b0 := F_length_b0.other W13 (Or.inr (slot_ne (Or.inl (ow hw 20 rfl)) (Or.inl (ow hw 13 rfl)) (by decide) (t := .int) (t' := (.array .byte)) (by decide) (by decide)))
  have V_sa := V_sa.other W13 (Ne.symm ne_b0_sa)
  have E_em := E_em.wr W13
  have V_em := V_em.other W13 (ne_exa E_em E_b0 (by decide))
  have V_de := V_de.other W13 (O0.ne BB.2.2.2.2.lt g_b0)
  have E_la := E_la.wr W13
  have V_la := V_la.other W13 (Ne.symm ne_b0_la)
  have Z0 := Nat.le_trans Z0 (Keep.of_wr W13).1
  have K0 := K0.wr W13 (Or.inl (List.mem_of_getElem? (i := 0) rfl))
  have N0 := Fr.snoc X13 N0 g_b0
  have O0 := O0.wr W13 g_b0
  refine oS (B := T13.setTop (mkF m 110 #[rv b0, rv sa, iv 0, iv 65536] [])) (fun t k => st13 t k) ?_
  refine oS (B := T13.setTop (mkF m 111 #[rv b0, rv sa, iv 0, iv 65536] [(.ref sa)])) (fun t k => XS.aloadN X13.here hx rfl (hb hby d3_110) rfl rfl k) ?_
  refine oS (B := T13.setTop (mkF m 112 #[rv b0, rv sa, iv 0, iv 65536] [(.int 0), (.ref sa)])) (fun t k => XS.iloadN X13.here hx rfl (hb hby d3_111) rfl k) ?_
  refine oS (B := T13.setTop (mkF m 113 #[rv b0, rv sa, iv 0, iv 65536] [(.ref b0), (.int 0), (.ref sa)])) (fun t k => XS.aloadN X13.here hx rfl (hb hby d3_112) rfl rfl k) ?_
  obtain ⟨T14, X14, e14, st14⟩ := getF X13 hx hZ hown (host := "") (Or.inl (ow hw 12 rfl)) Via.refl e13 F_last_b0 (g := (mkF m 113 #[rv b0, rv sa, iv 0, iv 65536] [(.ref b0), (.int 0), (.ref sa)])) rfl rfl (hb hby d3_113)
  refine oS (B := T14.setTop (mkF m 116 #[rv b0, rv sa, iv 0, iv 65536] [(.ref la), (.int 0), (.ref sa)])) (fun t k => st14 t k) ?_
  refine oS (B := T14.setTop (mkF m 117 #[rv b0, rv sa, iv 0, iv 65536] [(.ref b0), (.ref la), (.int 0), (.ref sa)])) (fun t k => XS.aloadN X14.here hx rfl (hb hby d3_116) rfl rfl k) ?_
  obtain ⟨T15, X15, e15, st15⟩ := getF X14 hx hZ hown (host := "") (Or.inl (ow hw 28 rfl)) Via.refl e14 F_lastLength_b0 (g := (mkF m 117 #[rv b0, rv sa, iv 0, iv 65536] [(.ref b0), (.ref la), (.int 0), (.ref sa)])) rfl rfl (hb hby d3_117)
  refine oS (B := T15.setTop (mkF m 120 #[rv b0, rv sa, iv 0, iv 65536] [(.int 0), (.ref la), (.int 0), (.ref sa)])) (fun t k => st15 t k) ?_
  refine oS (B := T15.setTop (mkF m 121 #[rv b0, rv sa, iv 0, iv 65536] [(.int 65536), (.int 0), (.ref la), (.int 0), (.ref sa)])) (fun t k => XS.iloadN X15.here hx rfl (hb hby d3_120) rfl k) ?_
  obtain ⟨T16, h16, L16, X16, e16, N16q, K16, VC16, st16⟩ := cpA X15 hx hZ hown (ow hw 76 rfl) (ow hw 75 rfl) (ow hw 73 rfl) (ow hw 74 rfl) e15 V_sa V_la (Or.inl ⟨rfl, rfl⟩) (by decide) (by decide) (by decide) (by decide) (by decide) rfl (by rw [hlla]; decide) N0 g_la (g := (mkF m 121 #[rv b0, rv sa, iv 0, iv 65536] [(.int 65536), (.int 0), (.ref la), (.int 0), (.ref sa)])) rfl (by rw [hml]; rfl) rfl (hb hby d3_121) (by decide) (W := 0) (by show 2 * 0 + _ ≤ _; exact Nat.le_of_eq rfl) (by decide)
  have E_b0 := E_b0.keep K16
  have F_full_b0 := F_full_b0.keep K16 (ninS ne_b0_la nin0)
  have F_last_b0 := F_last_b0.keep K16 (ninS ne_b0_la nin0)
  have F_lastLength_b0 := F_lastLength_b0.keep K16 (ninS ne_b0_la nin0)
  have F_length_b0 := F_length_b0.keep K16 (ninS ne_b0_la nin0)
  have V_sa := V_sa.keep K16 (ninS ne_sa_la nin0)
  have E_em := E_em.keep K16
  have V_em := V_em.keep K16 (ninS (O0.ne BB.2.2.1.lt g_la) nin0)
  have V_de := V_de.keep K16 (ninS (O0.ne BB.2.2.2.2.lt g_la) nin0)
  have E_la := E_la.keep K16
  have Z0 := Nat.le_trans Z0 K16.1
  have O0 := O0.keep K16 (allS g_la all0)
  have K0 := K0.trans K16 (allS (Or.inr sz_la) all0)
  have N0 := N16q
  have V_la := VC16
  refine oS (B := T16.setTop (mkF m 124 #[rv b0, rv sa, iv 0, iv 65536] [])) (fun t k => st16 t k) ?_
  refine oS (B := T16.setTop (mkF m 125 #[rv b0, rv sa, iv 0, iv 65536] [(.ref b0)])) (fun t k => XS.aloadN X16.here hx rfl (hb hby d3_124) rfl rfl k) ?_
  refine oS (B := T16.setTop (mkF m 126 #[rv b0, rv sa, iv 0, iv 65536] [(.ref b0), (.ref b0)])) (fun t k => XS.dup X16.here hx rfl (hb hby d3_125) rfl rfl k) ?_
  obtain ⟨T17, X17, e17, st17⟩ := getF X16 hx hZ hown (host := "") (Or.inl (ow hw 28 rfl)) Via.refl e16 F_lastLength_b0 (g := (mkF m 126 #[rv b0, rv sa, iv 0, iv 65536] [(.ref b0), (.ref b0)])) rfl rfl (hb hby d3_126)
  refine oS (B := T17.setTop (mkF m 129 #[rv b0, rv sa, iv 0, iv 65536] [(.int 0), (.ref b0)])) (fun t k => st17 t k) ?_
  refine oS (B := T17.setTop (mkF m 130 #[rv b0, rv sa, iv 0, iv 65536] [(.int 65536), (.int 0), (.ref b0)])) (fun t k => XS.iloadN X17.here hx rfl (hb hby d3_129) rfl k) ?_
  refine oS (B := T17.setTop (mkF m 131 #[rv b0, rv sa, iv 0, iv 65536] [(.int 65536), (.ref b0)])) (fun t k => XS.iadd X17.here hx rfl (hb hby d3_130) rfl k) ?_
  obtain ⟨T18, h18, X18, e18, W18, st18⟩ := putF X17 hx hZ hown (host := "") (Or.inl (ow hw 28 rfl)) Via.refl e17 F_lastLength_b0 E_b0 (Or.inl (ow hw 29 rfl)) (ow hw 2 rfl) (ty := .int) (by decide) rfl rfl (g := (mkF m 131 #[rv b0, rv sa, iv 0, iv 65536] [(.int 65536), (.ref b0)])) rfl rfl (hb hby d3_131)
  have E_b0 := E_b0.wr W18
  have F_full_b0 := F_full_b0.other W18 (Or.inr (slot_ne (Or.inl (ow hw 27 rfl)) (Or.inl (ow hw 29 rfl)) (by decide) (t := (.object "java/util/List")) (t' := .int) (by decide) (by decide)))
  have F_last_b0 := F_last_b0.other W18 (Or.inr (slot_ne (Or.inl (ow hw 13 rfl)) (Or.inl (ow hw 29 rfl)) (by decide) (t := (.array .byte)) (t' := .int) (by decide) (by decide)))
  have F_lastLength_b0 := F_lastLength_b0.same W18
  have F_length_b0 := F_length_b0.other W18 (Or.inr (slot_ne (Or.inl (ow hw 20 rfl)) (Or.inl (ow hw 29 rfl)) (by decide) (t := .int) (t' := .int) (by decide) (by decide)))
  have V_sa := V_sa.other W18 (Ne.symm ne_b0_sa)
  have E_em := E_em.wr W18
  have V_em := V_em.other W18 (ne_exa E_em E_b0 (by decide))
  have V_de := V_de.other W18 (O0.ne BB.2.2.2.2.lt g_b0)
  have E_la := E_la.wr W18
  have V_la := V_la.other W18 (Ne.symm ne_b0_la)
  have Z0 := Nat.le_trans Z0 (Keep.of_wr W18).1
  have K0 := K0.wr W18 (Or.inl (List.mem_of_getElem? (i := 0) rfl))
  have N0 := Fr.snoc X18 N0 g_b0
  have O0 := O0.wr W18 g_b0
  refine oS (B := T18.setTop (mkF m 134 #[rv b0, rv sa, iv 0, iv 65536] [])) (fun t k => st18 t k) ?_
  refine oS (B := T18.setTop (mkF m 135 #[rv b0, rv sa, iv 0, iv 65536] [(.int 0)])) (fun t k => XS.iloadN X18.here hx rfl (hb hby d3_134) rfl k) ?_
  refine oS (B := T18.setTop (mkF m 136 #[rv b0, rv sa, iv 0, iv 65536] [(.int 65536), (.int 0)])) (fun t k => XS.iloadN X18.here hx rfl (hb hby d3_135) rfl k) ?_
  refine oS (B := T18.setTop (mkF m 137 #[rv b0, rv sa, iv 0, iv 65536] [(.int 65536)])) (fun t k => XS.iadd X18.here hx rfl (hb hby d3_136) rfl k) ?_
  refine oS (B := T18.setTop (mkF m 138 #[rv b0, rv sa, iv 65536, iv 65536] [])) (fun t k => XS.istoreN X18.here hx rfl (hb hby d3_137) rfl (l' := #[rv b0, rv sa, iv 65536, iv 65536]) rfl k) ?_
  refine oS (B := T18.setTop (mkF m 2 #[rv b0, rv sa, iv 65536, iv 65536] [])) (fun t k => XS.goto X18.here hx rfl (pc0 := 138) (pc' := 2) rfl (hb hby d3_138) (by decide) (by decide) k) ?_
  refine oS (B := T18.setTop (mkF m 3 #[rv b0, rv sa, iv 65536, iv 65536] [(.int 65536)])) (fun t k => XS.iloadN X18.here hx rfl (hb hby d3_2) rfl k) ?_
  refine oS (B := T18.setTop (mkF m 4 #[rv b0, rv sa, iv 65536, iv 65536] [(.ref sa), (.int 65536)])) (fun t k => XS.aloadN X18.here hx rfl (hb hby d3_3) rfl rfl k) ?_
  have Vo_19 := V_sa
  obtain ⟨cl_19, Ar_19, q_19, S_19, M_19, H_19, G_19⟩ := Vo_19
  refine oS (B := T18.setTop (mkF m 5 #[rv b0, rv sa, iv 65536, iv 65536] [(.int 65537), (.int 65536)])) (fun t k => X18.arraylength hx (by rw [e18]; exact Ar_19.1) (State.isArrayOf_alike hZ.alike Ar_19.2.1) (g := (mkF m 4 #[rv b0, rv sa, iv 65536, iv 65536] [(.ref sa), (.int 65536)])) rfl rfl (hb hby d3_4) t (by rw [len_of S_19 M_19]; exact k)) ?_
  refine oS (B := T18.setTop (mkF m 8 #[rv b0, rv sa, iv 65536, iv 65536] [])) (fun t k => XS.icmpNo X18.here hx rfl (hb hby d3_5) rfl (tlt (by decide)).2.1 k) ?_
  refine oS (B := T18.setTop (mkF m 9 #[rv b0, rv sa, iv 65536, iv 65536] [(.ref b0)])) (fun t k => XS.aloadN X18.here hx rfl (hb hby d3_8) rfl rfl k) ?_
  obtain ⟨T20, X20, e20, st20⟩ := getF X18 hx hZ hown (host := "") (Or.inl (ow hw 28 rfl)) Via.refl e18 F_lastLength_b0 (g := (mkF m 9 #[rv b0, rv sa, iv 65536, iv 65536] [(.ref b0)])) rfl rfl (hb hby d3_9)
  refine oS (B := T20.setTop (mkF m 12 #[rv b0, rv sa, iv 65536, iv 65536] [(.int 65536)])) (fun t k => st20 t k) ?_
  refine oS (B := T20.setTop (mkF m 14 #[rv b0, rv sa, iv 65536, iv 65536] [(.int 65536), (.int 65536)])) (fun t k => X20.ldcInt hx hown (mvT hZ (ow hw 54 rfl)) (g := (mkF m 12 #[rv b0, rv sa, iv 65536, iv 65536] [(.int 65536)])) rfl (hb hby d3_12) t k) ?_
  refine oS (B := T20.setTop (mkF m 17 #[rv b0, rv sa, iv 65536, iv 65536] [])) (fun t k => XS.icmpNo X20.here hx rfl (hb hby d3_14) rfl (teq rfl).2 k) ?_
  refine oS (B := T20.setTop (mkF m 18 #[rv b0, rv sa, iv 65536, iv 65536] [(.ref b0)])) (fun t k => XS.aloadN X20.here hx rfl (hb hby d3_17) rfl rfl k) ?_
  obtain ⟨T21, X21, e21, st21⟩ := getF X20 hx hZ hown (host := "") (Or.inl (ow hw 26 rfl)) Via.refl e20 F_full_b0 (g := (mkF m 18 #[rv b0, rv sa, iv 65536, iv 65536] [(.ref b0)])) rfl rfl (hb hby d3_18)
  refine oS (B := T21.setTop (mkF m 21 #[rv b0, rv sa, iv 65536, iv 65536] [.null])) (fun t k => st21 t k) ?_
  refine oS (B := T21.setTop (mkF m 24 #[rv b0, rv sa, iv 65536, iv 65536] [])) (fun t k => XS.ifnonnullNo X21.here hx rfl (hb hby d3_21) rfl k) ?_
  refine oS (B := T21.setTop (mkF m 25 #[rv b0, rv sa, iv 65536, iv 65536] [(.ref b0)])) (fun t k => XS.aloadN X21.here hx rfl (hb hby d3_24) rfl rfl k) ?_
  obtain ⟨T22, h22, X22, e22, E22, A22, D22, -, st22⟩ := newO X21 hx hZ hown (ow hw 77 rfl) (ow hw 78 rfl) (ow hw 79 rfl) e21 (g := (mkF m 25 #[rv b0, rv sa, iv 65536, iv 65536] [(.ref b0)])) rfl (hb hby d3_25) (by decide) (by decide)
  obtain ⟨li, g22⟩ : ∃ z, z = h18.size := ⟨_, rfl⟩
  rw [← g22] at A22 D22 st22
  have g_li : n0 ≤ li := Nat.le_trans Z0 (Nat.le_of_eq g22.symm)
  have sz_li : h0.size ≤ li := Nat.le_trans K0.1 (Nat.le_of_eq g22.symm)
  have ne_b0_li : b0 ≠ li := Nat.ne_of_lt (Nat.lt_of_lt_of_le E_b0.lt (Nat.le_of_eq g22.symm))
  have ne_sa_li : sa ≠ li := Nat.ne_of_lt (Nat.lt_of_lt_of_le V_sa.lt (Nat.le_of_eq g22.symm))
  have ne_em_li : em ≠ li := Nat.ne_of_lt (Nat.lt_of_lt_of_le E_em.lt (Nat.le_of_eq g22.symm))
  have ne_de_li : de ≠ li := Nat.ne_of_lt (Nat.lt_of_lt_of_le V_de.lt (Nat.le_of_eq g22.symm))
  have ne_la_li : la ≠ li := Nat.ne_of_lt (Nat.lt_of_lt_of_le E_la.lt (Nat.le_of_eq g22.symm))
  have E_b0 := E_b0.ext E22
  have F_full_b0 := F_full_b0.ext E22
  have F_last_b0 := F_last_b0.ext E22
  have F_lastLength_b0 := F_lastLength_b0.ext E22
  have F_length_b0 := F_length_b0.ext E22
  have V_sa := V_sa.ext E22
  have E_em := E_em.ext E22
  have V_em := V_em.ext E22
  have V_de := V_de.ext E22
  have E_la := E_la.ext E22
  have V_la := V_la.ext E22
  have Z0 := Nat.le_trans Z0 E22.1
  have O0 := O0.ext E22
  have K0 := K0.ext E22
  have E_li := A22
  have F_modCount_li : Fld Z h22 li "java/util/AbstractList" "modCount" "I" (.int 0) := D22 (Or.inl (ow hw 97 rfl)) (ty := .int) (by decide)
  have F_elementData_li : Fld Z h22 li "java/util/ArrayList" "elementData" "[Ljava/lang/Object;" .null := D22 (Or.inl (ow hw 100 rfl)) (ty := (.array (.object "java/lang/Object"))) (by decide)
  have F_size_li : Fld Z h22 li "java/util/ArrayList" "size" "I" (.int 0) := D22 (Or.inl (ow hw 113 rfl)) (ty := .int) (by decide)
  refine oS (B := T22.setTop (mkF m 28 #[rv b0, rv sa, iv 65536, iv 65536] [(.ref li), (.ref b0)])) (fun t k => st22 t k) ?_
  refine oS (B := T22.setTop (mkF m 29 #[rv b0, rv sa, iv 65536, iv 65536] [(.ref li), (.ref li), (.ref b0)])) (fun t k => XS.dup X22.here hx rfl (hb hby d3_28) rfl rfl k) ?_
  obtain ⟨_, _, ⟨T23, L23, k23, n23⟩, -, X23, ⟨Lc23, hQ23, l23, y23, z23⟩, st23⟩ := X22.specialBack hx (y := (⟨"java/util/ArrayList", "<init>", "()V"⟩ : MethodName)) rfl hown (mvT hZ (ow hw 80 rfl)) (mvT hZ (ow hw 81 rfl)) (mvT hZ (ow hw 82 rfl)) (by decide) (backOf (W := 2) (rm12 l Z a0 hw [] li em ke de kd h22 n0 Z0 E_li g_li F_modCount_li F_elementData_li F_size_li BB O0) hZ (ow hw 82 rfl) (ow hw 79 rfl) (by decide) (by decide)) (g := (mkF m 29 #[rv b0, rv sa, iv 65536, iv 65536] [(.ref li), (.ref li), (.ref b0)])) rfl (by rw [hml]; rfl) (Steps.refl _) (a := li) (argsL := []) (rest := [(.ref li), (.ref b0)]) (lenOf pd_2 rfl) rfl (by show 2 * 0 + _ ≤ _; exact Nat.le_of_eq rfl) (hb hby d3_29) (fun _ _ => ⟨rfl, e22, (by decide : 2 + 0 ≤ _), (by decide : 65539 + 0 ≤ _)⟩)
  dsimp only [Pt.U, Pt.locs, Pt.cells, Pt.slots] at X23 l23 y23 z23 st23 hQ23
  subst l23 y23 z23
  obtain ⟨rfl, N23q, K23, G0_23, G1_23, G2_23⟩ := hQ23
  have N0 := Fr.app N0 N23q
  have E_b0 := E_b0.keep K23
  have F_full_b0 := F_full_b0.keep K23 (ninS ne_b0_li nin0)
  have F_last_b0 := F_last_b0.keep K23 (ninS ne_b0_li nin0)
  have F_lastLength_b0 := F_lastLength_b0.keep K23 (ninS ne_b0_li nin0)
  have F_length_b0 := F_length_b0.keep K23 (ninS ne_b0_li nin0)
  have V_sa := V_sa.keep K23 (ninS ne_sa_li nin0)
  have E_em := E_em.keep K23
  have V_em := V_em.keep K23 (ninS ne_em_li nin0)
  have V_de := V_de.keep K23 (ninS ne_de_li nin0)
  have E_la := E_la.keep K23
  have V_la := V_la.keep K23 (ninS ne_la_li nin0)
  have E_li := E_li.keep K23
  have Z0 := Nat.le_trans Z0 K23.1
  have O0 := O0.keep K23 (allS g_li all0)
  have K0 := K0.trans K23 (allS (Or.inr sz_li) all0)
  have F_modCount_li := G0_23
  have F_elementData_li := G1_23
  have F_size_li := G2_23
  refine oS (B := T23.setTop (mkF m 32 #[rv b0, rv sa, iv 65536, iv 65536] [(.ref li), (.ref b0)])) (fun t k => st23.trans k) ?_
  obtain ⟨T24, h24, X24, e24, W24, st24⟩ := putF X23 hx hZ hown (host := "") (Or.inl (ow hw 26 rfl)) Via.refl rfl F_full_b0 E_b0 (Or.inl (ow hw 27 rfl)) (ow hw 2 rfl) (ty := (.object "java/util/List")) (by decide) rfl rfl (g := (mkF m 32 #[rv b0, rv sa, iv 65536, iv 65536] [(.ref li), (.ref b0)])) rfl rfl (hb hby d3_32)
  have E_b0 := E_b0.wr W24
  have F_full_b0 := F_full_b0.same W24
  have F_last_b0 := F_last_b0.other W24 (Or.inr (slot_ne (Or.inl (ow hw 13 rfl)) (Or.inl (ow hw 27 rfl)) (by decide) (t := (.array .byte)) (t' := (.object "java/util/List")) (by decide) (by decide)))
  have F_lastLength_b0 := F_lastLength_b0.other W24 (Or.inr (slot_ne (Or.inl (ow hw 29 rfl)) (Or.inl (ow hw 27 rfl)) (by decide) (t := .int) (t' := (.object "java/util/List")) (by decide) (by decide)))
  have F_length_b0 := F_length_b0.other W24 (Or.inr (slot_ne (Or.inl (ow hw 20 rfl)) (Or.inl (ow hw 27 rfl)) (by decide) (t := .int) (t' := (.object "java/util/List")) (by decide) (by decide)))
  have V_sa := V_sa.other W24 (Ne.symm ne_b0_sa)
  have E_em := E_em.wr W24
  have V_em := V_em.other W24 (ne_exa E_em E_b0 (by decide))
  have V_de := V_de.other W24 (O0.ne BB.2.2.2.2.lt g_b0)
  have E_la := E_la.wr W24
  have V_la := V_la.other W24 (Ne.symm ne_b0_la)
  have E_li := E_li.wr W24
  have F_modCount_li := F_modCount_li.other W24 (Or.inl (Ne.symm ne_b0_li))
  have F_elementData_li := F_elementData_li.other W24 (Or.inl (Ne.symm ne_b0_li))
  have F_size_li := F_size_li.other W24 (Or.inl (Ne.symm ne_b0_li))
  have Z0 := Nat.le_trans Z0 (Keep.of_wr W24).1
  have K0 := K0.wr W24 (Or.inl (List.mem_of_getElem? (i := 0) rfl))
  have N0 := Fr.snoc X24 N0 g_b0
  have O0 := O0.wr W24 g_b0
  refine oS (B := T24.setTop (mkF m 35 #[rv b0, rv sa, iv 65536, iv 65536] [])) (fun t k => st24 t k) ?_
  refine oS (B := T24.setTop (mkF m 36 #[rv b0, rv sa, iv 65536, iv 65536] [(.ref b0)])) (fun t k => XS.aloadN X24.here hx rfl (hb hby d3_35) rfl rfl k) ?_
  obtain ⟨T25, X25, e25, st25⟩ := getF X24 hx hZ hown (host := "") (Or.inl (ow hw 26 rfl)) Via.refl e24 F_full_b0 (g := (mkF m 36 #[rv b0, rv sa, iv 65536, iv 65536] [(.ref b0)])) rfl rfl (hb hby d3_36)
  refine oS (B := T25.setTop (mkF m 39 #[rv b0, rv sa, iv 65536, iv 65536] [(.ref li)])) (fun t k => st25 t k) ?_
  refine oS (B := T25.setTop (mkF m 40 #[rv b0, rv sa, iv 65536, iv 65536] [(.ref b0), (.ref li)])) (fun t k => XS.aloadN X25.here hx rfl (hb hby d3_39) rfl rfl k) ?_
  obtain ⟨T26, X26, e26, st26⟩ := getF X25 hx hZ hown (host := "") (Or.inl (ow hw 12 rfl)) Via.refl e25 F_last_b0 (g := (mkF m 40 #[rv b0, rv sa, iv 65536, iv 65536] [(.ref b0), (.ref li)])) rfl rfl (hb hby d3_40)
  refine oS (B := T26.setTop (mkF m 43 #[rv b0, rv sa, iv 65536, iv 65536] [(.ref la), (.ref li)])) (fun t k => st26 t k) ?_
  obtain ⟨cq27, kq27, q27a, q27b, q27c⟩ := isOf hZ e26 E_li
  obtain ⟨_, _, ⟨T27, L27, k27, n27⟩, -, X27, ⟨Lc27, hQ27, l27, y27, z27⟩, st27⟩ := X26.interfaceBack hx (xi := (⟨"java/util/List", "add", "(Ljava/lang/Object;)Z"⟩ : MethodName)) (y := (⟨"java/util/ArrayList", "add", "(Ljava/lang/Object;)Z"⟩ : MethodName)) hown (mvT hZ (ow hw 101 rfl)) (mvT hZ (ow hw 102 rfl)) (mvT hZ (ow hw 103 rfl)) (mvT hZ (ow hw 104 rfl)) (mvT hZ (ow hw 105 rfl)) (mvT hZ (ow hw 106 rfl)) (mvT hZ (ow hw 107 rfl)) (mvT hZ (ow hw 108 rfl)) (by decide) (backOf (W := 0) (rmadd l Z a0 hw [] li la em ke de kd h24 n0 Z0 E_li g_li F_modCount_li F_elementData_li F_size_li BB O0 E_la) hZ (ow hw 109 rfl) (ow hw 79 rfl) (by decide) (by decide)) q27a q27b q27c (g := (mkF m 43 #[rv b0, rv sa, iv 65536, iv 65536] [(.ref la), (.ref li)])) rfl (by rw [hml]; rfl) (Steps.refl _) (argsL := [(.ref la)]) (rest := []) (lenOf pd_7 rfl) rfl (by show 2 * 0 + _ ≤ _; exact Nat.le_of_eq rfl) (hb hby d3_43) (fun _ _ => ⟨rfl, e26, (by decide : 2 + 1 ≤ _), (by decide : 65539 + 10 ≤ _)⟩)
  dsimp only [Pt.U, Pt.locs, Pt.cells, Pt.slots] at X27 l27 y27 z27 st27 hQ27
  subst l27 y27 z27
  obtain ⟨rfl, N27q, K27⟩ := hQ27
  have N0 := Fr.app N0 N27q
  have E_b0 := E_b0.keep K27
  have F_full_b0 := F_full_b0.keep K27 (ninS ne_b0_li nin0)
  have F_last_b0 := F_last_b0.keep K27 (ninS ne_b0_li nin0)
  have F_lastLength_b0 := F_lastLength_b0.keep K27 (ninS ne_b0_li nin0)
  have F_length_b0 := F_length_b0.keep K27 (ninS ne_b0_li nin0)
  have V_sa := V_sa.keep K27 (ninS ne_sa_li nin0)
  have E_em := E_em.keep K27
  have V_em := V_em.keep K27 (ninS ne_em_li nin0)
  have V_de := V_de.keep K27 (ninS ne_de_li nin0)
  have E_la := E_la.keep K27
  have V_la := V_la.keep K27 (ninS ne_la_li nin0)
  have E_li := E_li.keep K27
  have Z0 := Nat.le_trans Z0 K27.1
  have O0 := O0.keep K27 (allS g_li all0)
  have K0 := K0.trans K27 (allS (Or.inr sz_li) all0)
  refine oS (B := T27.setTop (mkF m 48 #[rv b0, rv sa, iv 65536, iv 65536] [(.int 1)])) (fun t k => st27.trans k) ?_
  refine oS (B := T27.setTop (mkF m 49 #[rv b0, rv sa, iv 65536, iv 65536] [])) (fun t k => XS.pop X27.here hx rfl (hb hby d3_48) rfl rfl k) ?_
  refine oS (B := T27.setTop (mkF m 50 #[rv b0, rv sa, iv 65536, iv 65536] [(.ref b0)])) (fun t k => XS.aloadN X27.here hx rfl (hb hby d3_49) rfl rfl k) ?_
  obtain ⟨T28, X28, e28, st28⟩ := getS2 X27 hx hZ hown (host := "") (Or.inl (ow hw 10 rfl)) Via.refl rfl (BB.1.ext O0.2) (g := (mkF m 50 #[rv b0, rv sa, iv 65536, iv 65536] [(.ref b0)])) rfl (hb hby d3_50)
  refine oS (B := T28.setTop (mkF m 53 #[rv b0, rv sa, iv 65536, iv 65536] [(.ref em), (.ref b0)])) (fun t k => st28 t k) ?_
  obtain ⟨T29, h29, X29, e29, W29, st29⟩ := putF X28 hx hZ hown (host := "") (Or.inl (ow hw 12 rfl)) Via.refl e28 F_last_b0 E_b0 (Or.inl (ow hw 13 rfl)) (ow hw 2 rfl) (ty := (.array .byte)) (by decide) rfl rfl (g := (mkF m 53 #[rv b0, rv sa, iv 65536, iv 65536] [(.ref em), (.ref b0)])) rfl rfl (hb hby d3_53)
  have E_b0 := E_b0.wr W29
  have F_full_b0 := F_full_b0.other W29 (Or.inr (slot_ne (Or.inl (ow hw 27 rfl)) (Or.inl (ow hw 13 rfl)) (by decide) (t := (.object "java/util/List")) (t' := (.array .byte)) (by decide) (by decide)))
  have F_last_b0 := F_last_b0.same W29
  have F_lastLength_b0 := F_lastLength_b0.other W29 (Or.inr (slot_ne (Or.inl (ow hw 29 rfl)) (Or.inl (ow hw 13 rfl)) (by decide) (t := .int) (t' := (.array .byte)) (by decide) (by decide)))
  have F_length_b0 := F_length_b0.other W29 (Or.inr (slot_ne (Or.inl (ow hw 20 rfl)) (Or.inl (ow hw 13 rfl)) (by decide) (t := .int) (t' := (.array .byte)) (by decide) (by decide)))
  have V_sa := V_sa.other W29 (Ne.symm ne_b0_sa)
  have E_em := E_em.wr W29
  have V_em := V_em.other W29 (ne_exa E_em E_b0 (by decide))
  have V_de := V_de.other W29 (O0.ne BB.2.2.2.2.lt g_b0)
  have E_la := E_la.wr W29
  have V_la := V_la.other W29 (Ne.symm ne_b0_la)
  have E_li := E_li.wr W29
  have Z0 := Nat.le_trans Z0 (Keep.of_wr W29).1
  have K0 := K0.wr W29 (Or.inl (List.mem_of_getElem? (i := 0) rfl))
  have N0 := Fr.snoc X29 N0 g_b0
  have O0 := O0.wr W29 g_b0
  refine oS (B := T29.setTop (mkF m 56 #[rv b0, rv sa, iv 65536, iv 65536] [])) (fun t k => st29 t k) ?_
  refine oS (B := T29.setTop (mkF m 57 #[rv b0, rv sa, iv 65536, iv 65536] [(.ref b0)])) (fun t k => XS.aloadN X29.here hx rfl (hb hby d3_56) rfl rfl k) ?_
  refine oS (B := T29.setTop (mkF m 58 #[rv b0, rv sa, iv 65536, iv 65536] [(.int 0), (.ref b0)])) (fun t k => XS.iconst X29.here hx rfl (hb hby d3_57) k) ?_
  obtain ⟨T30, h30, X30, e30, W30, st30⟩ := putF X29 hx hZ hown (host := "") (Or.inl (ow hw 28 rfl)) Via.refl e29 F_lastLength_b0 E_b0 (Or.inl (ow hw 29 rfl)) (ow hw 2 rfl) (ty := .int) (by decide) rfl rfl (g := (mkF m 58 #[rv b0, rv sa, iv 65536, iv 65536] [(.int 0), (.ref b0)])) rfl rfl (hb hby d3_58)
  have E_b0 := E_b0.wr W30
  have F_full_b0 := F_full_b0.other W30 (Or.inr (slot_ne (Or.inl (ow hw 27 rfl)) (Or.inl (ow hw 29 rfl)) (by decide) (t := (.object "java/util/List")) (t' := .int) (by decide) (by decide)))
  have F_last_b0 := F_last_b0.other W30 (Or.inr (slot_ne (Or.inl (ow hw 13 rfl)) (Or.inl (ow hw 29 rfl)) (by decide) (t := (.array .byte)) (t' := .int) (by decide) (by decide)))
  have F_lastLength_b0 := F_lastLength_b0.same W30
  have F_length_b0 := F_length_b0.other W30 (Or.inr (slot_ne (Or.inl (ow hw 20 rfl)) (Or.inl (ow hw 29 rfl)) (by decide) (t := .int) (t' := .int) (by decide) (by decide)))
  have V_sa := V_sa.other W30 (Ne.symm ne_b0_sa)
  have E_em := E_em.wr W30
  have V_em := V_em.other W30 (ne_exa E_em E_b0 (by decide))
  have V_de := V_de.other W30 (O0.ne BB.2.2.2.2.lt g_b0)
  have E_la := E_la.wr W30
  have V_la := V_la.other W30 (Ne.symm ne_b0_la)
  have E_li := E_li.wr W30
  have Z0 := Nat.le_trans Z0 (Keep.of_wr W30).1
  have K0 := K0.wr W30 (Or.inl (List.mem_of_getElem? (i := 0) rfl))
  have N0 := Fr.snoc X30 N0 g_b0
  have O0 := O0.wr W30 g_b0
  refine oS (B := T30.setTop (mkF m 61 #[rv b0, rv sa, iv 65536, iv 65536] [])) (fun t k => st30 t k) ?_
  refine oS (B := T30.setTop (mkF m 62 #[rv b0, rv sa, iv 65536, iv 65536] [(.ref sa)])) (fun t k => XS.aloadN X30.here hx rfl (hb hby d3_61) rfl rfl k) ?_
  have Vo_31 := V_sa
  obtain ⟨cl_31, Ar_31, q_31, S_31, M_31, H_31, G_31⟩ := Vo_31
  refine oS (B := T30.setTop (mkF m 63 #[rv b0, rv sa, iv 65536, iv 65536] [(.int 65537)])) (fun t k => X30.arraylength hx (by rw [e30]; exact Ar_31.1) (State.isArrayOf_alike hZ.alike Ar_31.2.1) (g := (mkF m 62 #[rv b0, rv sa, iv 65536, iv 65536] [(.ref sa)])) rfl rfl (hb hby d3_62) t (by rw [len_of S_31 M_31]; exact k)) ?_
  refine oS (B := T30.setTop (mkF m 64 #[rv b0, rv sa, iv 65536, iv 65536] [(.int 65536), (.int 65537)])) (fun t k => XS.iloadN X30.here hx rfl (hb hby d3_63) rfl k) ?_
  refine oS (B := T30.setTop (mkF m 65 #[rv b0, rv sa, iv 65536, iv 65536] [(.int 1)])) (fun t k => XS.isub X30.here hx rfl (hb hby d3_64) rfl k) ?_
  refine oS (B := T30.setTop (mkF m 67 #[rv b0, rv sa, iv 65536, iv 65536] [(.int 65536), (.int 1)])) (fun t k => X30.ldcInt hx hown (mvT hZ (ow hw 54 rfl)) (g := (mkF m 65 #[rv b0, rv sa, iv 65536, iv 65536] [(.int 1)])) rfl (hb hby d3_65) t k) ?_
  refine oS (B := T30.setTop (mkF m 68 #[rv b0, rv sa, iv 65536, iv 65536] [(.ref b0), (.int 65536), (.int 1)])) (fun t k => XS.aloadN X30.here hx rfl (hb hby d3_67) rfl rfl k) ?_
  obtain ⟨T32, X32, e32, st32⟩ := getF X30 hx hZ hown (host := "") (Or.inl (ow hw 28 rfl)) Via.refl e30 F_lastLength_b0 (g := (mkF m 68 #[rv b0, rv sa, iv 65536, iv 65536] [(.ref b0), (.int 65536), (.int 1)])) rfl rfl (hb hby d3_68)
  refine oS (B := T32.setTop (mkF m 71 #[rv b0, rv sa, iv 65536, iv 65536] [(.int 0), (.int 65536), (.int 1)])) (fun t k => st32 t k) ?_
  refine oS (B := T32.setTop (mkF m 72 #[rv b0, rv sa, iv 65536, iv 65536] [(.int 65536), (.int 1)])) (fun t k => XS.isub X32.here hx rfl (hb hby d3_71) rfl k) ?_
  obtain ⟨_, _, ⟨T33, L33, k33, n33⟩, -, X33, ⟨Lc33, hQ33, l33, y33, z33⟩, st33⟩ := Jvm.LawKit.callS X32 hx (y := (⟨"java/lang/Math", "min", "(II)I"⟩ : MethodName)) hown (mvT hZ (ow hw 55 rfl)) (mvT hZ (ow hw 56 rfl)) (mvT hZ (ow hw 57 rfl)) (mvT hZ (ow hw 58 rfl)) (by decide) (backOf (W := 0) (rm8 l Z a0 hw [] (1 : Int32) (65536 : Int32)  h30 n0 Z0 ) hZ (ow hw 58 rfl) (ow hw 57 rfl) (by decide) (by decide)) (g := (mkF m 72 #[rv b0, rv sa, iv 65536, iv 65536] [(.int 65536), (.int 1)])) rfl (by rw [hml]; rfl) (argsL := [(.int 1), (.int 65536)]) (rest := []) (lenOf pd_1 rfl) rfl (by show 2 * 0 + _ ≤ _; exact Nat.le_of_eq rfl) (hb hby d3_72) (fun _ _ => ⟨rfl, e32, (by decide : 3 + 0 ≤ _), (by decide : 65549 + 0 ≤ _)⟩)
  dsimp only [Pt.U, Pt.locs, Pt.cells, Pt.slots] at X33 l33 y33 z33 st33 hQ33
  subst l33 y33 z33
  obtain ⟨rfl, N33q, e33⟩ := hQ33
  have N0 := Fr.app N0 N33q
  refine oS (B := T33.setTop (mkF m 75 #[rv b0, rv sa, iv 65536, iv 65536] [(.int (own_min (1 : Int32) (65536 : Int32)))])) (fun t k => st33 t k) ?_
  have hlit33 : (own_min (1 : Int32) (65536 : Int32)) = (1 : Int32) := by decide
  rw [hlit33]
  refine oS (B := T33.setTop (mkF m 76 #[rv b0, rv sa, iv 65536, iv 1] [])) (fun t k => XS.istoreN X33.here hx rfl (hb hby d3_75) rfl (l' := #[rv b0, rv sa, iv 65536, iv 1]) rfl k) ?_
  refine oS (B := T33.setTop (mkF m 77 #[rv b0, rv sa, iv 65536, iv 1] [(.ref b0)])) (fun t k => XS.aloadN X33.here hx rfl (hb hby d3_76) rfl rfl k) ?_
  obtain ⟨T34, X34, e34, st34⟩ := getF X33 hx hZ hown (host := "") (Or.inl (ow hw 28 rfl)) Via.refl e33 F_lastLength_b0 (g := (mkF m 77 #[rv b0, rv sa, iv 65536, iv 1] [(.ref b0)])) rfl rfl (hb hby d3_77)
  refine oS (B := T34.setTop (mkF m 80 #[rv b0, rv sa, iv 65536, iv 1] [(.int 0)])) (fun t k => st34 t k) ?_
  refine oS (B := T34.setTop (mkF m 81 #[rv b0, rv sa, iv 65536, iv 1] [(.int 1), (.int 0)])) (fun t k => XS.iloadN X34.here hx rfl (hb hby d3_80) rfl k) ?_
  refine oS (B := T34.setTop (mkF m 82 #[rv b0, rv sa, iv 65536, iv 1] [(.int 1)])) (fun t k => XS.iadd X34.here hx rfl (hb hby d3_81) rfl k) ?_
  refine oS (B := T34.setTop (mkF m 83 #[rv b0, rv sa, iv 65536, iv 1] [(.ref b0), (.int 1)])) (fun t k => XS.aloadN X34.here hx rfl (hb hby d3_82) rfl rfl k) ?_
  obtain ⟨T35, X35, e35, st35⟩ := getF X34 hx hZ hown (host := "") (Or.inl (ow hw 12 rfl)) Via.refl e34 F_last_b0 (g := (mkF m 83 #[rv b0, rv sa, iv 65536, iv 1] [(.ref b0), (.int 1)])) rfl rfl (hb hby d3_83)
  refine oS (B := T35.setTop (mkF m 86 #[rv b0, rv sa, iv 65536, iv 1] [(.ref em), (.int 1)])) (fun t k => st35 t k) ?_
  have Vo_36 := V_em
  obtain ⟨cl_36, Ar_36, q_36, S_36, M_36, H_36, G_36⟩ := Vo_36
  refine oS (B := T35.setTop (mkF m 87 #[rv b0, rv sa, iv 65536, iv 1] [(.int 0), (.int 1)])) (fun t k => X35.arraylength hx (by rw [e35]; exact Ar_36.1) (State.isArrayOf_alike hZ.alike Ar_36.2.1) (g := (mkF m 86 #[rv b0, rv sa, iv 65536, iv 1] [(.ref em), (.int 1)])) rfl rfl (hb hby d3_86) t (by rw [len_of S_36 M_36]; exact k)) ?_
  refine oS (B := T35.setTop (mkF m 90 #[rv b0, rv sa, iv 65536, iv 1] [])) (fun t k => XS.icmpNo X35.here hx rfl (hb hby d3_87) rfl (tlt (by decide)).2.2.2 k) ?_
  refine oS (B := T35.setTop (mkF m 91 #[rv b0, rv sa, iv 65536, iv 1] [(.ref b0)])) (fun t k => XS.aloadN X35.here hx rfl (hb hby d3_90) rfl rfl k) ?_
  refine oS (B := T35.setTop (mkF m 92 #[rv b0, rv sa, iv 65536, iv 1] [(.ref b0), (.ref b0)])) (fun t k => XS.aloadN X35.here hx rfl (hb hby d3_91) rfl rfl k) ?_
  obtain ⟨T37, X37, e37, st37⟩ := getF X35 hx hZ hown (host := "") (Or.inl (ow hw 12 rfl)) Via.refl e35 F_last_b0 (g := (mkF m 92 #[rv b0, rv sa, iv 65536, iv 1] [(.ref b0), (.ref b0)])) rfl rfl (hb hby d3_92)
  refine oS (B := T37.setTop (mkF m 95 #[rv b0, rv sa, iv 65536, iv 1] [(.ref em), (.ref b0)])) (fun t k => st37 t k) ?_
  refine oS (B := T37.setTop (mkF m 96 #[rv b0, rv sa, iv 65536, iv 1] [(.ref b0), (.ref em), (.ref b0)])) (fun t k => XS.aloadN X37.here hx rfl (hb hby d3_95) rfl rfl k) ?_
  obtain ⟨T38, X38, e38, st38⟩ := getF X37 hx hZ hown (host := "") (Or.inl (ow hw 28 rfl)) Via.refl e37 F_lastLength_b0 (g := (mkF m 96 #[rv b0, rv sa, iv 65536, iv 1] [(.ref b0), (.ref em), (.ref b0)])) rfl rfl (hb hby d3_96)
  refine oS (B := T38.setTop (mkF m 99 #[rv b0, rv sa, iv 65536, iv 1] [(.int 0), (.ref em), (.ref b0)])) (fun t k => st38 t k) ?_
  refine oS (B := T38.setTop (mkF m 100 #[rv b0, rv sa, iv 65536, iv 1] [(.int 1), (.int 0), (.ref em), (.ref b0)])) (fun t k => XS.iloadN X38.here hx rfl (hb hby d3_99) rfl k) ?_
  refine oS (B := T38.setTop (mkF m 101 #[rv b0, rv sa, iv 65536, iv 1] [(.int 1), (.ref em), (.ref b0)])) (fun t k => XS.iadd X38.here hx rfl (hb hby d3_100) rfl k) ?_
  obtain ⟨_, _, ⟨T39, L39, k39, n39⟩, -, X39, ⟨Lc39, hQ39, l39, y39, z39⟩, st39⟩ := Jvm.LawKit.callS X38 hx (y := (⟨"com/example/loomwire/loomwire/transport/MessageBuffer", "chunkCapacity", "(I)I"⟩ : MethodName)) hown (mvT hZ (ow hw 59 rfl)) (mvT hZ (ow hw 60 rfl)) (mvT hZ (ow hw 3 rfl)) (mvT hZ (ow hw 61 rfl)) (by decide) (backOf (W := 2) (rm9_1 l Z a0 hw []   h30 n0 Z0 ) hZ (ow hw 61 rfl) (ow hw 3 rfl) (by decide) (by decide)) (g := (mkF m 101 #[rv b0, rv sa, iv 65536, iv 1] [(.int 1), (.ref em), (.ref b0)])) rfl (by rw [hml]; rfl) (argsL := [(.int 1)]) (rest := [(.ref em), (.ref b0)]) (lenOf pd_0 rfl) rfl (by show 2 * 0 + _ ≤ _; exact Nat.le_of_eq rfl) (hb hby d3_101) (fun _ _ => ⟨rfl, e38, (by decide : 3 + 0 ≤ _), (by decide : 65549 + 0 ≤ _)⟩)
  dsimp only [Pt.U, Pt.locs, Pt.cells, Pt.slots] at X39 l39 y39 z39 st39 hQ39
  subst l39 y39 z39
  obtain ⟨rfl, N39q, e39⟩ := hQ39
  have N0 := Fr.app N0 N39q
  refine oS (B := T39.setTop (mkF m 104 #[rv b0, rv sa, iv 65536, iv 1] [(.int 1), (.ref em), (.ref b0)])) (fun t k => st39 t k) ?_
  have lt_b0 := E_b0.lt
  have lt_sa := V_sa.lt
  have lt_la := E_la.lt
  have lt_li := E_li.lt
  have KZ := K0
  obtain ⟨_, _, ⟨T40, L40, k40, n40⟩, -, X40, ⟨Lc40, hQ40, l40, y40, z40⟩, st40⟩ := Jvm.LawKit.callS X39 hx (y := (⟨"java/util/Arrays", "copyOf", "([BI)[B"⟩ : MethodName)) hown (mvT hZ (ow hw 40 rfl)) (mvT hZ (ow hw 41 rfl)) (mvT hZ (ow hw 42 rfl)) (mvT hZ (ow hw 43 rfl)) (by decide) (backOf (W := 1) (rmg_1 l Z a0 hw []  em ke de kd h30 n0 Z0 BB O0) hZ (ow hw 43 rfl) (ow hw 42 rfl) (by decide) (by decide)) (g := (mkF m 104 #[rv b0, rv sa, iv 65536, iv 1] [(.int 1), (.ref em), (.ref b0)])) rfl (by rw [hml]; rfl) (argsL := [(.ref em), (.int 1)]) (rest := [(.ref b0)]) (lenOf pd_6 rfl) rfl (by show 2 * 0 + _ ≤ _; exact Nat.le_of_eq rfl) (hb hby d3_104) (fun _ _ => ⟨rfl, e39, (by decide : 3 + 1 ≤ _), (by decide : 65549 + 1 ≤ _)⟩)
  dsimp only [Pt.U, Pt.locs, Pt.cells, Pt.slots] at X40 l40 y40 z40 st40 hQ40
  subst l40 y40 z40
  obtain ⟨lb, klb, vlb, rfl, N40q, K40, g_lb, sz'_lb, E_lb, V_lb, hllb⟩ := hQ40
  have N0 := Fr.app N0 N40q
  have E_b0 := E_b0.keep K40
  have F_full_b0 := F_full_b0.keep K40 nin0
  have F_last_b0 := F_last_b0.keep K40 nin0
  have F_lastLength_b0 := F_lastLength_b0.keep K40 nin0
  have F_length_b0 := F_length_b0.keep K40 nin0
  have V_sa := V_sa.keep K40 nin0
  have E_em := E_em.keep K40
  have V_em := V_em.keep K40 nin0
  have V_de := V_de.keep K40 nin0
  have E_la := E_la.keep K40
  have V_la := V_la.keep K40 nin0
  have E_li := E_li.keep K40
  have Z0 := Nat.le_trans Z0 K40.1
  have O0 := O0.keep K40 all0
  have K0 := K0.trans K40 all0
  have ne_b0_lb : b0 ≠ lb := Nat.ne_of_lt (Nat.lt_of_lt_of_le lt_b0 sz'_lb)
  have ne_sa_lb : sa ≠ lb := Nat.ne_of_lt (Nat.lt_of_lt_of_le lt_sa sz'_lb)
  have ne_la_lb : la ≠ lb := Nat.ne_of_lt (Nat.lt_of_lt_of_le lt_la sz'_lb)
  have ne_li_lb : li ≠ lb := Nat.ne_of_lt (Nat.lt_of_lt_of_le lt_li sz'_lb)
  have sz_lb : h0.size ≤ lb := Nat.le_trans KZ.1 sz'_lb
  refine oS (B := T40.setTop (mkF m 107 #[rv b0, rv sa, iv 65536, iv 1] [(.ref lb), (.ref b0)])) (fun t k => st40 t k) ?_
  obtain ⟨T41, h41, X41, e41, W41, st41⟩ := putF X40 hx hZ hown (host := "") (Or.inl (ow hw 12 rfl)) Via.refl rfl F_last_b0 E_b0 (Or.inl (ow hw 13 rfl)) (ow hw 2 rfl) (ty := (.array .byte)) (by decide) rfl rfl (g := (mkF m 107 #[rv b0, rv sa, iv 65536, iv 1] [(.ref lb), (.ref b0)])) rfl rfl (hb hby d3_107)
  have E_b0 := E_b0.wr W41
  have F_full_b0 := F_full_b0.other W41 (Or.inr (slot_ne (Or.inl (ow hw 27 rfl)) (Or.inl (ow hw 13 rfl)) (by decide) (t := (.object "java/util/List")) (t' := (.array .byte)) (by decide) (by decide)))
  have F_last_b0 := F_last_b0.same W41
  have F_lastLength_b0 := F_lastLength_b0.other W41 (Or.inr (slot_ne (Or.inl (ow hw 29 rfl)) (Or.inl (ow hw 13 rfl)) (by decide) (t := .int) (t' := (.array .byte)) (by decide) (by decide)))
  have F_length_b0 := F_length_b0.other W41 (Or.inr (slot_ne (Or.inl (ow hw 20 rfl)) (Or.inl (ow hw 13 rfl)) (by decide) (t := .int) (t' := (.array .byte)) (by decide) (by decide)))
  have V_sa := V_sa.other W41 (Ne.symm ne_b0_sa)
  have E_em := E_em.wr W41
  have V_em := V_em.other W41 (ne_exa E_em E_b0 (by decide))
  have V_de := V_de.other W41 (O0.ne BB.2.2.2.2.lt g_b0)
  have E_la := E_la.wr W41
  have V_la := V_la.other W41 (Ne.symm ne_b0_la)
  have E_li := E_li.wr W41
  have E_lb := E_lb.wr W41
  have V_lb := V_lb.other W41 (Ne.symm ne_b0_lb)
  have Z0 := Nat.le_trans Z0 (Keep.of_wr W41).1
  have K0 := K0.wr W41 (Or.inl (List.mem_of_getElem? (i := 0) rfl))
  have N0 := Fr.snoc X41 N0 g_b0
  have O0 := O0.wr W41 g_b0
  refine oS (B := T41.setTop (mkF m 110 #[rv b0, rv sa, iv 65536, iv 1] [])) (fun t k => st41 t k) ?_
  refine oS (B := T41.setTop (mkF m 111 #[rv b0, rv sa, iv 65536, iv 1] [(.ref sa)])) (fun t k => XS.aloadN X41.here hx rfl (hb hby d3_110) rfl rfl k) ?_
  refine oS (B := T41.setTop (mkF m 112 #[rv b0, rv sa, iv 65536, iv 1] [(.int 65536), (.ref sa)])) (fun t k => XS.iloadN X41.here hx rfl (hb hby d3_111) rfl k) ?_
  refine oS (B := T41.setTop (mkF m 113 #[rv b0, rv sa, iv 65536, iv 1] [(.ref b0), (.int 65536), (.ref sa)])) (fun t k => XS.aloadN X41.here hx rfl (hb hby d3_112) rfl rfl k) ?_
  obtain ⟨T42, X42, e42, st42⟩ := getF X41 hx hZ hown (host := "") (Or.inl (ow hw 12 rfl)) Via.refl e41 F_last_b0 (g := (mkF m 113 #[rv b0, rv sa, iv 65536, iv 1] [(.ref b0), (.int 65536), (.ref sa)])) rfl rfl (hb hby d3_113)
  refine oS (B := T42.setTop (mkF m 116 #[rv b0, rv sa, iv 65536, iv 1] [(.ref lb), (.int 65536), (.ref sa)])) (fun t k => st42 t k) ?_
  refine oS (B := T42.setTop (mkF m 117 #[rv b0, rv sa, iv 65536, iv 1] [(.ref b0), (.ref lb), (.int 65536), (.ref sa)])) (fun t k => XS.aloadN X42.here hx rfl (hb hby d3_116) rfl rfl k) ?_
  obtain ⟨T43, X43, e43, st43⟩ := getF X42 hx hZ hown (host := "") (Or.inl (ow hw 28 rfl)) Via.refl e42 F_lastLength_b0 (g := (mkF m 117 #[rv b0, rv sa, iv 65536, iv 1] [(.ref b0), (.ref lb), (.int 65536), (.ref sa)])) rfl rfl (hb hby d3_117)
  refine oS (B := T43.setTop (mkF m 120 #[rv b0, rv sa, iv 65536, iv 1] [(.int 0), (.ref lb), (.int 65536), (.ref sa)])) (fun t k => st43 t k) ?_
  refine oS (B := T43.setTop (mkF m 121 #[rv b0, rv sa, iv 65536, iv 1] [(.int 1), (.int 0), (.ref lb), (.int 65536), (.ref sa)])) (fun t k => XS.iloadN X43.here hx rfl (hb hby d3_120) rfl k) ?_
  obtain ⟨T44, h44, L44, X44, e44, N44q, K44, VC44, st44⟩ := cpA X43 hx hZ hown (ow hw 76 rfl) (ow hw 75 rfl) (ow hw 73 rfl) (ow hw 74 rfl) e43 V_sa V_lb (Or.inl ⟨rfl, rfl⟩) (by decide) (by decide) (by decide) (by decide) (by decide) rfl (by rw [hllb]; decide) N0 g_lb (g := (mkF m 121 #[rv b0, rv sa, iv 65536, iv 1] [(.int 1), (.int 0), (.ref lb), (.int 65536), (.ref sa)])) rfl (by rw [hml]; rfl) rfl (hb hby d3_121) (by decide) (W := 0) (by show 2 * 0 + _ ≤ _; exact Nat.le_of_eq rfl) (by decide)
  have E_b0 := E_b0.keep K44
  have F_full_b0 := F_full_b0.keep K44 (ninS ne_b0_lb nin0)
  have F_last_b0 := F_last_b0.keep K44 (ninS ne_b0_lb nin0)
  have F_lastLength_b0 := F_lastLength_b0.keep K44 (ninS ne_b0_lb nin0)
  have F_length_b0 := F_length_b0.keep K44 (ninS ne_b0_lb nin0)
  have V_sa := V_sa.keep K44 (ninS ne_sa_lb nin0)
  have E_em := E_em.keep K44
  have V_em := V_em.keep K44 (ninS (O0.ne BB.2.2.1.lt g_lb) nin0)
  have V_de := V_de.keep K44 (ninS (O0.ne BB.2.2.2.2.lt g_lb) nin0)
  have E_la := E_la.keep K44
  have V_la := V_la.keep K44 (ninS ne_la_lb nin0)
  have E_li := E_li.keep K44
  have E_lb := E_lb.keep K44
  have Z0 := Nat.le_trans Z0 K44.1
  have O0 := O0.keep K44 (allS g_lb all0)
  have K0 := K0.trans K44 (allS (Or.inr sz_lb) all0)
  have N0 := N44q
  have V_lb := VC44
  refine oS (B := T44.setTop (mkF m 124 #[rv b0, rv sa, iv 65536, iv 1] [])) (fun t k => st44 t k) ?_
  refine oS (B := T44.setTop (mkF m 125 #[rv b0, rv sa, iv 65536, iv 1] [(.ref b0)])) (fun t k => XS.aloadN X44.here hx rfl (hb hby d3_124) rfl rfl k) ?_
  refine oS (B := T44.setTop (mkF m 126 #[rv b0, rv sa, iv 65536, iv 1] [(.ref b0), (.ref b0)])) (fun t k => XS.dup X44.here hx rfl (hb hby d3_125) rfl rfl k) ?_
  obtain ⟨T45, X45, e45, st45⟩ := getF X44 hx hZ hown (host := "") (Or.inl (ow hw 28 rfl)) Via.refl e44 F_lastLength_b0 (g := (mkF m 126 #[rv b0, rv sa, iv 65536, iv 1] [(.ref b0), (.ref b0)])) rfl rfl (hb hby d3_126)
  refine oS (B := T45.setTop (mkF m 129 #[rv b0, rv sa, iv 65536, iv 1] [(.int 0), (.ref b0)])) (fun t k => st45 t k) ?_
  refine oS (B := T45.setTop (mkF m 130 #[rv b0, rv sa, iv 65536, iv 1] [(.int 1), (.int 0), (.ref b0)])) (fun t k => XS.iloadN X45.here hx rfl (hb hby d3_129) rfl k) ?_
  refine oS (B := T45.setTop (mkF m 131 #[rv b0, rv sa, iv 65536, iv 1] [(.int 1), (.ref b0)])) (fun t k => XS.iadd X45.here hx rfl (hb hby d3_130) rfl k) ?_
  obtain ⟨T46, h46, X46, e46, W46, st46⟩ := putF X45 hx hZ hown (host := "") (Or.inl (ow hw 28 rfl)) Via.refl e45 F_lastLength_b0 E_b0 (Or.inl (ow hw 29 rfl)) (ow hw 2 rfl) (ty := .int) (by decide) rfl rfl (g := (mkF m 131 #[rv b0, rv sa, iv 65536, iv 1] [(.int 1), (.ref b0)])) rfl rfl (hb hby d3_131)
  have E_b0 := E_b0.wr W46
  have F_full_b0 := F_full_b0.other W46 (Or.inr (slot_ne (Or.inl (ow hw 27 rfl)) (Or.inl (ow hw 29 rfl)) (by decide) (t := (.object "java/util/List")) (t' := .int) (by decide) (by decide)))
  have F_last_b0 := F_last_b0.other W46 (Or.inr (slot_ne (Or.inl (ow hw 13 rfl)) (Or.inl (ow hw 29 rfl)) (by decide) (t := (.array .byte)) (t' := .int) (by decide) (by decide)))
  have F_lastLength_b0 := F_lastLength_b0.same W46
  have F_length_b0 := F_length_b0.other W46 (Or.inr (slot_ne (Or.inl (ow hw 20 rfl)) (Or.inl (ow hw 29 rfl)) (by decide) (t := .int) (t' := .int) (by decide) (by decide)))
  have V_sa := V_sa.other W46 (Ne.symm ne_b0_sa)
  have E_em := E_em.wr W46
  have V_em := V_em.other W46 (ne_exa E_em E_b0 (by decide))
  have V_de := V_de.other W46 (O0.ne BB.2.2.2.2.lt g_b0)
  have E_la := E_la.wr W46
  have V_la := V_la.other W46 (Ne.symm ne_b0_la)
  have E_li := E_li.wr W46
  have E_lb := E_lb.wr W46
  have V_lb := V_lb.other W46 (Ne.symm ne_b0_lb)
  have Z0 := Nat.le_trans Z0 (Keep.of_wr W46).1
  have K0 := K0.wr W46 (Or.inl (List.mem_of_getElem? (i := 0) rfl))
  have N0 := Fr.snoc X46 N0 g_b0
  have O0 := O0.wr W46 g_b0
  refine oS (B := T46.setTop (mkF m 134 #[rv b0, rv sa, iv 65536, iv 1] [])) (fun t k => st46 t k) ?_
  refine oS (B := T46.setTop (mkF m 135 #[rv b0, rv sa, iv 65536, iv 1] [(.int 65536)])) (fun t k => XS.iloadN X46.here hx rfl (hb hby d3_134) rfl k) ?_
  refine oS (B := T46.setTop (mkF m 136 #[rv b0, rv sa, iv 65536, iv 1] [(.int 1), (.int 65536)])) (fun t k => XS.iloadN X46.here hx rfl (hb hby d3_135) rfl k) ?_
  refine oS (B := T46.setTop (mkF m 137 #[rv b0, rv sa, iv 65536, iv 1] [(.int 65537)])) (fun t k => XS.iadd X46.here hx rfl (hb hby d3_136) rfl k) ?_
  refine oS (B := T46.setTop (mkF m 138 #[rv b0, rv sa, iv 65537, iv 1] [])) (fun t k => XS.istoreN X46.here hx rfl (hb hby d3_137) rfl (l' := #[rv b0, rv sa, iv 65537, iv 1]) rfl k) ?_
  refine oS (B := T46.setTop (mkF m 2 #[rv b0, rv sa, iv 65537, iv 1] [])) (fun t k => XS.goto X46.here hx rfl (pc0 := 138) (pc' := 2) rfl (hb hby d3_138) (by decide) (by decide) k) ?_
  refine oS (B := T46.setTop (mkF m 3 #[rv b0, rv sa, iv 65537, iv 1] [(.int 65537)])) (fun t k => XS.iloadN X46.here hx rfl (hb hby d3_2) rfl k) ?_
  refine oS (B := T46.setTop (mkF m 4 #[rv b0, rv sa, iv 65537, iv 1] [(.ref sa), (.int 65537)])) (fun t k => XS.aloadN X46.here hx rfl (hb hby d3_3) rfl rfl k) ?_
  have Vo_47 := V_sa
  obtain ⟨cl_47, Ar_47, q_47, S_47, M_47, H_47, G_47⟩ := Vo_47
  refine oS (B := T46.setTop (mkF m 5 #[rv b0, rv sa, iv 65537, iv 1] [(.int 65537), (.int 65537)])) (fun t k => X46.arraylength hx (by rw [e46]; exact Ar_47.1) (State.isArrayOf_alike hZ.alike Ar_47.2.1) (g := (mkF m 4 #[rv b0, rv sa, iv 65537, iv 1] [(.ref sa), (.int 65537)])) rfl rfl (hb hby d3_4) t (by rw [len_of S_47 M_47]; exact k)) ?_
  refine oS (B := T46.setTop (mkF m 141 #[rv b0, rv sa, iv 65537, iv 1] [])) (fun t k => XS.icmpYes X46.here hx rfl (pc0 := 5) (pc' := 141) rfl (hb hby d3_5) rfl (flt (by decide)).2.1 (by decide) (by decide) k) ?_
  refine oS (B := T46.setTop (mkF m 142 #[rv b0, rv sa, iv 65537, iv 1] [(.ref b0)])) (fun t k => XS.aloadN X46.here hx rfl (hb hby d3_141) rfl rfl k) ?_
  refine oS (B := T46.setTop (mkF m 143 #[rv b0, rv sa, iv 65537, iv 1] [(.ref b0), (.ref b0)])) (fun t k => XS.dup X46.here hx rfl (hb hby d3_142) rfl rfl k) ?_
  obtain ⟨T48, X48, e48, st48⟩ := getF X46 hx hZ hown (host := "") (Or.inl (ow hw 19 rfl)) Via.refl e46 F_length_b0 (g := (mkF m 143 #[rv b0, rv sa, iv 65537, iv 1] [(.ref b0), (.ref b0)])) rfl rfl (hb hby d3_143)
  refine oS (B := T48.setTop (mkF m 146 #[rv b0, rv sa, iv 65537, iv 1] [(.int 0), (.ref b0)])) (fun t k => st48 t k) ?_
  refine oS (B := T48.setTop (mkF m 147 #[rv b0, rv sa, iv 65537, iv 1] [(.ref sa), (.int 0), (.ref b0)])) (fun t k => XS.aloadN X48.here hx rfl (hb hby d3_146) rfl rfl k) ?_
  have Vo_49 := V_sa
  obtain ⟨cl_49, Ar_49, q_49, S_49, M_49, H_49, G_49⟩ := Vo_49
  refine oS (B := T48.setTop (mkF m 148 #[rv b0, rv sa, iv 65537, iv 1] [(.int 65537), (.int 0), (.ref b0)])) (fun t k => X48.arraylength hx (by rw [e48]; exact Ar_49.1) (State.isArrayOf_alike hZ.alike Ar_49.2.1) (g := (mkF m 147 #[rv b0, rv sa, iv 65537, iv 1] [(.ref sa), (.int 0), (.ref b0)])) rfl rfl (hb hby d3_147) t (by rw [len_of S_49 M_49]; exact k)) ?_
  refine oS (B := T48.setTop (mkF m 149 #[rv b0, rv sa, iv 65537, iv 1] [(.int 65537), (.ref b0)])) (fun t k => XS.iadd X48.here hx rfl (hb hby d3_148) rfl k) ?_
  obtain ⟨T50, h50, X50, e50, W50, st50⟩ := putF X48 hx hZ hown (host := "") (Or.inl (ow hw 19 rfl)) Via.refl e48 F_length_b0 E_b0 (Or.inl (ow hw 20 rfl)) (ow hw 2 rfl) (ty := .int) (by decide) rfl rfl (g := (mkF m 149 #[rv b0, rv sa, iv 65537, iv 1] [(.int 65537), (.ref b0)])) rfl rfl (hb hby d3_149)
  have E_b0 := E_b0.wr W50
  have F_full_b0 := F_full_b0.other W50 (Or.inr (slot_ne (Or.inl (ow hw 27 rfl)) (Or.inl (ow hw 20 rfl)) (by decide) (t := (.object "java/util/List")) (t' := .int) (by decide) (by decide)))
  have F_last_b0 := F_last_b0.other W50 (Or.inr (slot_ne (Or.inl (ow hw 13 rfl)) (Or.inl (ow hw 20 rfl)) (by decide) (t := (.array .byte)) (t' := .int) (by decide) (by decide)))
  have F_lastLength_b0 := F_lastLength_b0.other W50 (Or.inr (slot_ne (Or.inl (ow hw 29 rfl)) (Or.inl (ow hw 20 rfl)) (by decide) (t := .int) (t' := .int) (by decide) (by decide)))
  have F_length_b0 := F_length_b0.same W50
  have V_sa := V_sa.other W50 (Ne.symm ne_b0_sa)
  have E_em := E_em.wr W50
  have V_em := V_em.other W50 (ne_exa E_em E_b0 (by decide))
  have V_de := V_de.other W50 (O0.ne BB.2.2.2.2.lt g_b0)
  have E_la := E_la.wr W50
  have V_la := V_la.other W50 (Ne.symm ne_b0_la)
  have E_li := E_li.wr W50
  have E_lb := E_lb.wr W50
  have V_lb := V_lb.other W50 (Ne.symm ne_b0_lb)
  have Z0 := Nat.le_trans Z0 (Keep.of_wr W50).1
  have K0 := K0.wr W50 (Or.inl (List.mem_of_getElem? (i := 0) rfl))
  have N0 := Fr.snoc X50 N0 g_b0
  have O0 := O0.wr W50 g_b0
  refine oS (B := T50.setTop (mkF m 152 #[rv b0, rv sa, iv 65537, iv 1] [])) (fun t k => st50 t k) ?_
  exact own_retV X50 hx hlk Bd.returns (hb hby d3_152) (by decide) (by decide) (by rw [e50]; exact ⟨_, _, _, _, rfl, N0, K0, F_full_b0, F_last_b0, F_lastLength_b0, F_length_b0⟩)
theorem ef_rma_65538 (m : MethodId) (x0 : Addr) (x1 : Addr) : entryFrame m #[(.ref x0), (.ref x1)] 4 = mkF m 0 #[rv x0, rv x1, .unset, .unset] [] := by first | (simp [entryFrame, mkF, argsToLocals, Value.category]; done) | rfl
def QQ_rma_65538 (Z : State) (b0 : Addr) (sa : Addr) (em : Addr) (ke : ClassId) (de : Addr) (kd : ClassId) (ks : ClassId) (vs : List Value) (h0 : Heap) (n0 : Nat) (v : Option Value) (h : Heap) (L : List Loc) : Prop := ∃ vf vl vll vlen : Value, v = none ∧ Fr n0 L ∧ Keep h0 h [b0] ∧ Fld Z h b0 "com/example/loomwire/loomwire/transport/MessageBuffer" "full" "Ljava/util/List;" vf ∧ Fld Z h b0 "com/example/loomwire/loomwire/transport/MessageBuffer" "last" "[B" vl ∧ Fld Z h b0 "com/example/loomwire/loomwire/transport/MessageBuffer" "lastLength" "I" vll ∧ Fld Z h b0 "com/example/loomwire/loomwire/transport/MessageBuffer" "length" "I" vlen
set_option maxRecDepth 65536 in
set_option maxHeartbeats 40000000 in
theorem rma_65538 (l : Launch) (Z : State) (a0 : Array Value) (hw : ∀ d ∈ tables_1, d.before a0 Z = true) (ws : List Jvm.Cond) (b0 : Addr) (sa : Addr) (em : Addr) (ke : ClassId) (de : Addr) (kd : ClassId) (ks : ClassId) (vs : List Value) (h0 : Heap) (n0 : Nat) (Z0 : n0 ≤ h0.size) (E_b0 : Exa Z h0 b0 "com/example/loomwire/loomwire/transport/MessageBuffer") (g_b0 : n0 ≤ b0) (F_full_b0 : Fld Z h0 b0 "com/example/loomwire/loomwire/transport/MessageBuffer" "full" "Ljava/util/List;" .null) (F_last_b0 : Fld Z h0 b0 "com/example/loomwire/loomwire/transport/MessageBuffer" "last" "[B" (.ref em)) (F_lastLength_b0 : Fld Z h0 b0 "com/example/loomwire/loomwire/transport/MessageBuffer" "lastLength" "I" (.int 0)) (F_length_b0 : Fld Z h0 b0 "com/example/loomwire/loomwire/transport/MessageBuffer" "length" "I" (.int 0)) (BB : own_Base Z em ke de kd) (O0 : Old Z n0 h0) (ne_b0_sa : b0 ≠ sa) (V_sa : Arv Z h0 sa ks .byte (65538 : Int32) vs (.int 0)) :
    MetFree l (⟨"com/example/loomwire/loomwire/transport/MessageBuffer", "append", "([B)V"⟩ : MethodName) (head1 (Jvm.Cond.code (⟨"com/example/loomwire/loomwire/transport/MessageBuffer", "append", "([B)V"⟩ : MethodName) prog_102_method_4_code 4 none :: ws) ({ frames := 5, cells := 4, slots := 65551, locals := 80 } : Room)) (fun a U => a = #[(.ref b0), (.ref sa)] ∧ Z.Warmed39 U.vm ∧ U.heap = h0) (fun _ _ _ _ _ => True) (fun _ U o U' => ∃ v L, o = .returned v ∧ (QQ_rma_65538 Z b0 sa em ke de kd ks vs h0 n0) v U'.heap L ∧ FrameEnd U o U' L ({ frames := 5, cells := 4, slots := 65551, locals := 80 } : Room).cells ({ frames := 5, cells := 4, slots := 65551, locals := 80 } : Room).slots) := by
  refine MetFree.of_bodySF (plainFor_of_name pn_com_example_loomwire_loomwire_transport_MessageBuffer) hisR ?_
  intro p e s m args below meth c s₁ Bd hml0 hP hK
  obtain ⟨rfl, hZ, hh⟩ := hP
  have hx := Bd.exec
  have hby := Bd.bytes
  have hlk : meth.locks = false := BodyLoose.notSynchronized Bd
  have hml : c.maxLocals = 4 := hml0
  have hown : s.vm.findClass "com/example/loomwire/loomwire/transport/MessageBuffer" = some m.cls := findClass_of_methodNamed Bd.named
  have hnm := (name_of_methodNamed Bd.named Bd.method).1
  have X0 : Stand p l e ({ frames := 5, cells := 4, slots := 65551, locals := 80 } : Room) s m #[(.ref b0), (.ref sa)] below meth c s₁ [] 0 0 := Stand.of_body Bd
  have e0 : s₁.heap = h0 := by rw [← hh, Bd.state]; rfl
  have N0 := Fr.nil n0
  show own_G p.tables e below s (QQ_rma_65538 Z b0 sa em ke de kd ks vs h0 n0) ({ frames := 5, cells := 4, slots := 65551, locals := 80 } : Room).cells ({ frames := 5, cells := 4, slots := 65551, locals := 80 } : Room).slots (s₁.setTop (entryFrame m #[(.ref b0), (.ref sa)] 4))
  refine oS (B := s₁.setTop (mkF m 0 #[rv b0, rv sa, .unset, .unset] [])) (fun t k => castTop (ef_rma_65538 m b0 sa) k) ?_
  have V_em := BB.2.2.1.ext O0.2
  have E_em := BB.2.1.ext O0.2
  have V_de := BB.2.2.2.2.ext O0.2
  have K0 := Keep.refl h0 [b0]
  refine oS (B := s₁.setTop (mkF m 1 #[rv b0, rv sa, .unset, .unset] [(.int 0)])) (fun t k => XS.iconst X0.here hx rfl (hb hby d3_0) k) ?_
  refine oS (B := s₁.setTop (mkF m 2 #[rv b0, rv sa, iv 0, .unset] [])) (fun t k => XS.istoreN X0.here hx rfl (hb hby d3_1) rfl (l' := #[rv b0, rv sa, iv 0, .unset]) rfl k) ?_
  refine oS (B := s₁.setTop (mkF m 3 #[rv b0, rv sa, iv 0, .unset] [(.int 0)])) (fun t k => XS.iloadN X0.here hx rfl (hb hby d3_2) rfl k) ?_
  refine oS (B := s₁.setTop (mkF m 4 #[rv b0, rv sa, iv 0, .unset] [(.ref sa), (.int 0)])) (fun t k => XS.aloadN X0.here hx rfl (hb hby d3_3) rfl rfl k) ?_
  have Vo_1 := V_sa
  obtain ⟨cl_1, Ar_1, q_1, S_1, M_1, H_1, G_1⟩ := Vo_1
  refine oS (B := s₁.setTop (mkF m 5 #[rv b0, rv sa, iv 0, .unset] [(.int 65538), (.int 0)])) (fun t k => X0.arraylength hx (by rw [e0]; exact Ar_1.1) (State.isArrayOf_alike hZ.alike Ar_1.2.1) (g := (mkF m 4 #[rv b0, rv sa, iv 0, .unset] [(.ref sa), (.int 0)])) rfl rfl (hb hby d3_4) t (by rw [len_of S_1 M_1]; exact k)) ?_
  refine oS (B := s₁.setTop (mkF m 8 #[rv b0, rv sa, iv 0, .unset] [])) (fun t k => XS.icmpNo X0.here hx rfl (hb hby d3_5) rfl (tlt (by decide)).2.1 k) ?_
  refine oS (B := s₁.setTop (mkF m 9 #[rv b0, rv sa, iv 0, .unset] [(.ref b0)])) (fun t k => XS.aloadN X0.here hx rfl (hb hby d3_8) rfl rfl k) ?_
  obtain ⟨T2, X2, e2, st2⟩ := getF X0 hx hZ hown (host := "") (Or.inl (ow hw 28 rfl)) Via.refl e0 F_lastLength_b0 (g := (mkF m 9 #[rv b0, rv sa, iv 0, .unset] [(.ref b0)])) rfl rfl (hb hby d3_9)
  refine oS (B := T2.setTop (mkF m 12 #[rv b0, rv sa, iv 0, .unset] [(.int 0)])) (fun t k => st2 t k) ?_
  refine oS (B := T2.setTop (mkF m 14 #[rv b0, rv sa, iv 0, .unset] [(.int 65536), (.int 0)])) (fun t k => X2.ldcInt hx hown (mvT hZ (ow hw 54 rfl)) (g := (mkF m 12 #[rv b0, rv sa, iv 0, .unset] [(.int 0)])) rfl (hb hby d3_12) t k) ?_
  refine oS (B := T2.setTop (mkF m 61 #[rv b0, rv sa, iv 0, .unset] [])) (fun t k => XS.icmpYes X2.here hx rfl (pc0 := 14) (pc' := 61) rfl (hb hby d3_14) rfl (feq (by decide)).2 (by decide) (by decide) k) ?_
  refine oS (B := T2.setTop (mkF m 62 #[rv b0, rv sa, iv 0, .unset] [(.ref sa)])) (fun t k => XS.aloadN X2.here hx rfl (hb hby d3_61) rfl rfl k) ?_
  have Vo_3 := V_sa
  obtain ⟨cl_3, Ar_3, q_3, S_3, M_3, H_3, G_3⟩ := Vo_3
  refine oS (B := T2.setTop (mkF m 63 #[rv b0, rv sa, iv 0, .unset] [(.int 65538)])) (fun t k => X2.arraylength hx (by rw [e2]; exact Ar_3.1) (State.isArrayOf_alike hZ.alike Ar_3.2.1) (g := (mkF m 62 #[rv b0, rv sa, iv 0, .unset] [(.ref sa)])) rfl rfl (hb hby d3_62) t (by rw [len_of S_3 M_3]; exact k)) ?_
  refine oS (B := T2.setTop (mkF m 64 #[rv b0, rv sa, iv 0, .unset] [(.int 0), (.int 65538)])) (fun t k => XS.iloadN X2.here hx rfl (hb hby d3_63) rfl k) ?_
  refine oS (B := T2.setTop (mkF m 65 #[rv b0, rv sa, iv 0, .unset] [(.int 65538)])) (fun t k => XS.isub X2.here hx rfl (hb hby d3_64) rfl k) ?_
  refine oS (B := T2.setTop (mkF m 67 #[rv b0, rv sa, iv 0, .unset] [(.int 65536), (.int 65538)])) (fun t k => X2.ldcInt hx hown (mvT hZ (ow hw 54 rfl)) (g := (mkF m 65 #[rv b0, rv sa, iv 0, .unset] [(.int 65538)])) rfl (hb hby d3_65) t k) ?_
  refine oS (B := T2.setTop (mkF m 68 #[rv b0, rv sa, iv 0, .unset] [(.ref b0), (.int 65536), (.int 65538)])) (fun t k => XS.aloadN X2.here hx rfl (hb hby d3_67) rfl rfl k) ?_
  obtain ⟨T4, X4, e4, st4⟩ := getF X2 hx hZ hown (host := "") (Or.inl (ow hw 28 rfl)) Via.refl e2 F_lastLength_b0 (g := (mkF m 68 #[rv b0, rv sa, iv 0, .unset] [(.ref b0), (.int 65536), (.int 65538)])) rfl rfl (hb hby d3_68)
  refine oS (B := T4.setTop (mkF m 71 #[rv b0, rv sa, iv 0, .unset] [(.int 0), (.int 65536), (.int 65538)])) (fun t k => st4 t k) ?_
  refine oS (B := T4.setTop (mkF m 72 #[rv b0, rv sa, iv 0, .unset] [(.int 65536), (.int 65538)])) (fun t k => XS.isub X4.here hx rfl (hb hby d3_71) rfl k) ?_
  obtain ⟨_, _, ⟨T5, L5, k5, n5⟩, -, X5, ⟨Lc5, hQ5, l5, y5, z5⟩, st5⟩ := Jvm.LawKit.callS X4 hx (y := (⟨"java/lang/Math", "min", "(II)I"⟩ : MethodName)) hown (mvT hZ (ow hw 55 rfl)) (mvT hZ (ow hw 56 rfl)) (mvT hZ (ow hw 57 rfl)) (mvT hZ (ow hw 58 rfl)) (by decide) (backOf (W := 0) (rm8 l Z a0 hw [] (65538 : Int32) (65536 : Int32)  h0 n0 Z0 ) hZ (ow hw 58 rfl) (ow hw 57 rfl) (by decide) (by decide)) (g := (mkF m 72 #[rv b0, rv sa, iv 0, .unset] [(.int 65536), (.int 65538)])) rfl (by rw [hml]; rfl) (argsL := [(.int 65538), (.int 65536)]) (rest := []) (lenOf pd_1 rfl) rfl (by show 2 * 0 + _ ≤ _; exact Nat.le_of_eq rfl) (hb hby d3_72) (fun _ _ => ⟨rfl, e4, (by decide : 0 + 0 ≤ _), (by decide : 0 + 0 ≤ _)⟩)
  dsimp only [Pt.U, Pt.locs, Pt.cells, Pt.slots] at X5 l5 y5 z5 st5 hQ5
  subst l5 y5 z5
  obtain ⟨rfl, N5q, e5⟩ := hQ5
  have N0 := Fr.app N0 N5q
  refine oS (B := T5.setTop (mkF m 75 #[rv b0, rv sa, iv 0, .unset] [(.int (own_min (65538 : Int32) (65536 : Int32)))])) (fun t k => st5 t k) ?_
  have hlit5 : (own_min (65538 : Int32) (65536 : Int32)) = (65536 : Int32) := by decide
  rw [hlit5]
  refine oS (B := T5.setTop (mkF m 76 #[rv b0, rv sa, iv 0, iv 65536] [])) (fun t k => XS.istoreN X5.here hx rfl (hb hby d3_75) rfl (l' := #[rv b0, rv sa, iv 0, iv 65536]) rfl k) ?_
  refine oS (B := T5.setTop (mkF m 77 #[rv b0, rv sa, iv 0, iv 65536] [(.ref b0)])) (fun t k => XS.aloadN X5.here hx rfl (hb hby d3_76) rfl rfl k) ?_
  obtain ⟨T6, X6, e6, st6⟩ := getF X5 hx hZ hown (host := "") (Or.inl (ow hw 28 rfl)) Via.refl e5 F_lastLength_b0 (g := (mkF m 77 #[rv b0, rv sa, iv 0, iv 65536] [(.ref b0)])) rfl rfl (hb hby d3_77)
  refine oS (B := T6.setTop (mkF m 80 #[rv b0, rv sa, iv 0, iv 65536] [(.int 0)])) (fun t k => st6 t k) ?_
  refine oS (B := T6.setTop (mkF m 81 #[rv b0, rv sa, iv 0, iv 65536] [(.int 65536), (.int 0)])) (fun t k => XS.iloadN X6.here hx rfl (hb hby d3_80) rfl k) ?_
  refine oS (B := T6.setTop (mkF m 82 #[rv b0, rv sa, iv 0, iv 65536] [(.int 65536)])) (fun t k => XS.iadd X6.here hx rfl (hb hby d3_81) rfl k) ?_
  refine oS (B := T6.setTop (mkF m 83 #[rv b0, rv sa, iv 0, iv 65536] [(.ref b0), (.int 65536)])) (fun t k => XS.aloadN X6.here hx rfl (hb hby d3_82) rfl rfl k) ?_
  obtain ⟨T7, X7, e7, st7⟩ := getF X6 hx hZ hown (host := "") (Or.inl (ow hw 12 rfl)) Via.refl e6 F_last_b0 (g := (mkF m 83 #[rv b0, rv sa, iv 0, iv 65536] [(.ref b0), (.int 65536)])) rfl rfl (hb hby d3_83)
  refine oS (B := T7.setTop (mkF m 86 #[rv b0, rv sa, iv 0, iv 65536] [(.ref em), (.int 65536)])) (fun t k => st7 t k) ?_
  have Vo_8 := V_em
  obtain ⟨cl_8, Ar_8, q_8, S_8, M_8, H_8, G_8⟩ := Vo_8
  refine oS (B := T7.setTop (mkF m 87 #[rv b0, rv sa, iv 0, iv 65536] [(.int 0), (.int 65536)])) (fun t k => X7.arraylength hx (by rw [e7]; exact Ar_8.1) (State.isArrayOf_alike hZ.alike Ar_8.2.1) (g := (mkF m 86 #[rv b0, rv sa, iv 0, iv 65536] [(.ref em), (.int 65536)])) rfl rfl (hb hby d3_86) t (by rw [len_of S_8 M_8]; exact k)) ?_
  refine oS (B := T7.setTop (mkF m 90 #[rv b0, rv sa, iv 0, iv 65536] [])) (fun t k => XS.icmpNo X7.here hx rfl (hb hby d3_87) rfl (tlt (by decide)).2.2.2 k) ?_
  refine oS (B := T7.setTop (mkF m 91 #[rv b0, rv sa, iv 0, iv 65536] [(.ref b0)])) (fun t k => XS.aloadN X7.here hx rfl (hb hby d3_90) rfl rfl k) ?_
  refine oS (B := T7.setTop (mkF m 92 #[rv b0, rv sa, iv 0, iv 65536] [(.ref b0), (.ref b0)])) (fun t k => XS.aloadN X7.here hx rfl (hb hby d3_91) rfl rfl k) ?_
  obtain ⟨T9, X9, e9, st9⟩ := getF X7 hx hZ hown (host := "") (Or.inl (ow hw 12 rfl)) Via.refl e7 F_last_b0 (g := (mkF m 92 #[rv b0, rv sa, iv 0, iv 65536] [(.ref b0), (.ref b0)])) rfl rfl (hb hby d3_92)
  refine oS (B := T9.setTop (mkF m 95 #[rv b0, rv sa, iv 0, iv 65536] [(.ref em), (.ref b0)])) (fun t k => st9 t k) ?_
  refine oS (B := T9.setTop (mkF m 96 #[rv b0, rv sa, iv 0, iv 65536] [(.ref b0), (.ref em), (.ref b0)])) (fun t k => XS.aloadN X9.here hx rfl (hb hby d3_95) rfl rfl k) ?_
  obtain ⟨T10, X10, e10, st10⟩ := getF X9 hx hZ hown (host := "") (Or.inl (ow hw 28 rfl)) Via.refl e9 F_lastLength_b0 (g := (mkF m 96 #[rv b0, rv sa, iv 0, iv 65536] [(.ref b0), (.ref em), (.ref b0)])) rfl rfl (hb hby d3_96)
  refine oS (B := T10.setTop (mkF m 99 #[rv b0, rv sa, iv 0, iv 65536] [(.int 0), (.ref em), (.ref b0)])) (fun t k => st10 t k) ?_
  refine oS (B := T10.setTop (mkF m 100 #[rv b0, rv sa, iv 0, iv 65536] [(.int 65536), (.int 0), (.ref em), (.ref b0)])) (fun t k => XS.iloadN X10.here hx rfl (hb hby d3_99) rfl k) ?_
  refine oS (B := T10.setTop (mkF m 101 #[rv b0, rv sa, iv 0, iv 65536] [(.int 65536), (.ref em), (.ref b0)])) (fun t k => XS.iadd X10.here hx rfl (hb hby d3_100) rfl k) ?_
  obtain ⟨_, _, ⟨T11, L11, k11, n11⟩, -, X11, ⟨Lc11, hQ11, l11, y11, z11⟩, st11⟩ := Jvm.LawKit.callS X10 hx (y := (⟨"com/example/loomwire/loomwire/transport/MessageBuffer", "chunkCapacity", "(I)I"⟩ : MethodName)) hown (mvT hZ (ow hw 59 rfl)) (mvT hZ (ow hw 60 rfl)) (mvT hZ (ow hw 3 rfl)) (mvT hZ (ow hw 61 rfl)) (by decide) (backOf (W := 2) (rm9_65536 l Z a0 hw []   h0 n0 Z0 ) hZ (ow hw 61 rfl) (ow hw 3 rfl) (by decide) (by decide)) (g := (mkF m 101 #[rv b0, rv sa, iv 0, iv 65536] [(.int 65536), (.ref em), (.ref b0)])) rfl (by rw [hml]; rfl) (argsL := [(.int 65536)]) (rest := [(.ref em), (.ref b0)]) (lenOf pd_0 rfl) rfl (by show 2 * 0 + _ ≤ _; exact Nat.le_of_eq rfl) (hb hby d3_101) (fun _ _ => ⟨rfl, e10, (by decide : 0 + 0 ≤ _), (by decide : 0 + 0 ≤ _)⟩)
  dsimp only [Pt.U, Pt.locs, Pt.cells, Pt.slots] at X11 l11 y11 z11 st11 hQ11
  subst l11 y11 z11
  obtain ⟨rfl, N11q, e11⟩ := hQ11
  have N0 := Fr.app N0 N11q
  refine oS (B := T11.setTop (mkF m 104 #[rv b0, rv sa, iv 0, iv 65536] [(.int 65536), (.ref em), (.ref b0)])) (fun t k => st11 t k) ?_
  have lt_b0 := E_b0.lt
  have lt_sa := V_sa.lt
  have KZ := K0
  obtain ⟨_, _, ⟨T12, L12, k12, n12⟩, -, X12, ⟨Lc12, hQ12, l12, y12, z12⟩, st12⟩ := Jvm.LawKit.callS X11 hx (y := (⟨"java/util/Arrays", "copyOf", "([BI)[B"⟩ : MethodName)) hown (mvT hZ (ow hw 40 rfl)) (mvT hZ (ow hw 41 rfl)) (mvT hZ (ow hw 42 rfl)) (mvT hZ (ow hw 43 rfl)) (by decide) (backOf (W := 1) (rmg_65536 l Z a0 hw []  em ke de kd h0 n0 Z0 BB O0) hZ (ow hw 43 rfl) (ow hw 42 rfl) (by decide) (by decide)) (g := (mkF m 104 #[rv b0, rv sa, iv 0, iv 65536] [(.int 65536), (.ref em), (.ref b0)])) rfl (by rw [hml]; rfl) (argsL := [(.ref em), (.int 65536)]) (rest := [(.ref b0)]) (lenOf pd_6 rfl) rfl (by show 2 * 0 + _ ≤ _; exact Nat.le_of_eq rfl) (hb hby d3_104) (fun _ _ => ⟨rfl, e11, (by decide : 0 + 1 ≤ _), (by decide : 0 + 65536 ≤ _)⟩)
  dsimp only [Pt.U, Pt.locs, Pt.cells, Pt.slots] at X12 l12 y12 z12 st12 hQ12
  subst l12 y12 z12
  obtain ⟨la, kla, vla, rfl, N12q, K12, g_la, sz'_la, E_la, V_la, hlla⟩ := hQ12
  have N0 := Fr.app N0 N12q
  have E_b0 := E_b0.keep K12
  have F_full_b0 := F_full_b0.keep K12 nin0
  have F_last_b0 := F_last_b0.keep K12 nin0
  have F_lastLength_b0 := F_lastLength_b0.keep K12 nin0
  have F_length_b0 := F_length_b0.keep K12 nin0
  have V_sa := V_sa.keep K12 nin0
  have E_em := E_em.keep K12
  have V_em := V_em.keep K12 nin0
  have V_de := V_de.keep K12 nin0
  have Z0 := Nat.le_trans Z0 K12.1
  have O0 := O0.keep K12 all0
  have K0 := K0.trans K12 all0
  have ne_b0_la : b0 ≠ la := Nat.ne_of_lt (Nat.lt_of_lt_of_le lt_b0 sz'_la)
  have ne_sa_la : sa ≠ la := Nat.ne_of_lt (Nat.lt_of_lt_of_le lt_sa sz'_la)
  have sz_la : h0.size ≤ la := Nat.le_trans KZ.1 sz'_la
  refine oS (B := T12.setTop (mkF m 107 #[rv b0, rv sa, iv 0, iv 65536] [(.ref la), (.ref b0)])) (fun t k => st12 t k) ?_
  obtain ⟨T13, h13, X13, e13, W13, st13⟩ := putF X12 hx hZ hown (host := "") (Or.inl (ow hw 12 rfl)) Via.refl rfl F_last_b0 E_b0 (Or.inl (ow hw 13 rfl)) (ow hw 2 rfl) (ty := (.array .byte)) (by decide) rfl rfl (g := (mkF m 107 #[rv b0, rv sa, iv 0, iv 65536] [(.ref la), (.ref b0)])) rfl rfl (hb hby d3_107)
  have E_b0 := E_b0.wr W13
  have F_full_b0 := F_full_b0.other W13 (Or.inr (slot_ne (Or.inl (ow hw 27 rfl)) (Or.inl (ow hw 13 rfl)) (by decide) (t := (.object "java/util/List")) (t' := (.array .byte)) (by decide) (by decide)))
  have F_last_b0 := F_last_b0.same W13
  have F_lastLength_b0 := F_lastLength_b0.other W13 (Or.inr (slot_ne (Or.inl (ow hw 29 rfl)) (Or.inl (ow hw 13 rfl)) (by decide) (t := .int) (t' := (.array .byte)) (by decide) (by decide)))
  have F_length_b0 := F_length_b0.other W13 (Or.inr (slot_ne (Or.inl (ow hw 20 rfl)) (Or.inl (ow hw 13 rfl)) (by decide) (t := .int) (t' := (.array .byte)) (by decide) (by decide)))
  have V_sa := V_sa.other W13 (Ne.symm ne_b0_sa)
  have E_em := E_em.wr W13
  have V_em := V_em.other W13 (ne_exa E_em E_b0 (by decide))
  have V_de := V_de.other W13 (O0.ne BB.2.2.2.2.lt g_b0)
  have E_la := E_la.wr W13
  have V_la := V_la.other W13 (Ne.symm ne_b0_la)
  have Z0 := Nat.le_trans Z0 (Keep.of_wr W13).1
  have K0 := K0.wr W13 (Or.inl (List.mem_of_getElem? (i := 0) rfl))
  have N0 := Fr.snoc X13 N0 g_b0
  have O0 := O0.wr W13 g_b0
  refine oS (B := T13.setTop (mkF m 110 #[rv b0, rv sa, iv 0, iv 65536] [])) (fun t k => st13 t k) ?_
  refine oS (B := T13.setTop (mkF m 111 #[rv b0, rv sa, iv 0, iv 65536] [(.ref sa)])) (fun t k => XS.aloadN X13.here hx rfl (hb hby d3_110) rfl rfl k) ?_
  refine oS (B := T13.setTop (mkF m 112 #[rv b0, rv sa, iv 0, iv 65536] [(.int 0), (.ref sa)])) (fun t k => XS.iloadN X13.here hx rfl (hb hby d3_111) rfl k) ?_
  refine oS (B := T13.setTop (mkF m 113 #[rv b0, rv sa, iv 0, iv 65536] [(.ref b0), (.int 0), (.ref sa)])) (fun t k => XS.aloadN X13.here hx rfl (hb hby d3_112) rfl rfl k) ?_
  obtain ⟨T14, X14, e14, st14⟩ := getF X13 hx hZ hown (host := "") (Or.inl (ow hw 12 rfl)) Via.refl e13 F_last_b0 (g := (mkF m 113 #[rv b0, rv sa, iv 0, iv 65536] [(.ref b0), (.int 0), (.ref sa)])) rfl rfl (hb hby d3_113)
  refine oS (B := T14.setTop (mkF m 116 #[rv b0, rv sa, iv 0, iv 65536] [(.ref la), (.int 0), (.ref sa)])) (fun t k => st14 t k) ?_
  refine oS (B := T14.setTop (mkF m 117 #[rv b0, rv sa, iv 0, iv 65536] [(.ref b0), (.ref la), (.int 0), (.ref sa)])) (fun t k => XS.aloadN X14.here hx rfl (hb hby d3_116) rfl rfl k) ?_
  obtain ⟨T15, X15, e15, st15⟩ := getF X14 hx hZ hown (host := "") (Or.inl (ow hw 28 rfl)) Via.refl e14 F_lastLength_b0 (g := (mkF m 117 #[rv b0, rv sa, iv 0, iv 65536] [(.ref b0), (.ref la), (.int 0), (.ref sa)])) rfl rfl (hb hby d3_117)
  refine oS (B := T15.setTop (mkF m 120 #[rv b0, rv sa, iv 0, iv 65536] [(.int 0), (.ref la), (.int 0), (.ref sa)])) (fun t k => st15 t k) ?_
  refine oS (B := T15.setTop (mkF m 121 #[rv b0, rv sa, iv 0, iv 65536] [(.int 65536), (.int 0), (.ref la), (.int 0), (.ref sa)])) (fun t k => XS.iloadN X15.here hx rfl (hb hby d3_120) rfl k) ?_
  obtain ⟨T16, h16, L16, X16, e16, N16q, K16, VC16, st16⟩ := cpA X15 hx hZ hown (ow hw 76 rfl) (ow hw 75 rfl) (ow hw 73 rfl) (ow hw 74 rfl) e15 V_sa V_la (Or.inl ⟨rfl, rfl⟩) (by decide) (by decide) (by decide) (by decide) (by decide) rfl (by rw [hlla]; decide) N0 g_la (g := (mkF m 121 #[rv b0, rv sa, iv 0, iv 65536] [(.int 65536), (.int 0), (.ref la), (.int 0), (.ref sa)])) rfl (by rw [hml]; rfl) rfl (hb hby d3_121) (by decide) (W := 0) (by show 2 * 0 + _ ≤ _; exact Nat.le_of_eq rfl) (by decide)
  have E_b0 := E_b0.keep K16
  have F_full_b0 := F_full_b0.keep K16 (ninS ne_b0_la nin0)
  have F_last_b0 := F_last_b0.keep K16 (ninS ne_b0_la nin0)
  have F_lastLength_b0 := F_lastLength_b0.keep K16 (ninS ne_b0_la nin0)
  have F_length_b0 := F_length_b0.keep K16 (ninS ne_b0_la nin0)
  have V_sa := V_sa.keep K16 (ninS ne_sa_la nin0)
  have E_em := E_em.keep K16
  have V_em := V_em.keep K16 (ninS (O0.ne BB.2.2.1.lt g_la) nin0)
  have V_de := V_de.keep K16 (ninS (O0.ne BB.2.2.2.2.lt g_la) nin0)
  have E_la := E_la.keep K16
  have Z0 := Nat.le_trans Z0 K16.1
  have O0 := O0.keep K16 (allS g_la all0)
  have K0 := K0.trans K16 (allS (Or.inr sz_la) all0)
  have N0 := N16q
  have V_la := VC16
  refine oS (B := T16.setTop (mkF m 124 #[rv b0, rv sa, iv 0, iv 65536] [])) (fun t k => st16 t k) ?_
  refine oS (B := T16.setTop (mkF m 125 #[rv b0, rv sa, iv 0, iv 65536] [(.ref b0)])) (fun t k => XS.aloadN X16.here hx rfl (hb hby d3_124) rfl rfl k) ?_
  refine oS (B := T16.setTop (mkF m 126 #[rv b0, rv sa, iv 0, iv 65536] [(.ref b0), (.ref b0)])) (fun t k => XS.dup X16.here hx rfl (hb hby d3_125) rfl rfl k) ?_
  obtain ⟨T17, X17, e17, st17⟩ := getF X16 hx hZ hown (host := "") (Or.inl (ow hw 28 rfl)) Via.refl e16 F_lastLength_b0 (g := (mkF m 126 #[rv b0, rv sa, iv 0, iv 65536] [(.ref b0), (.ref b0)])) rfl rfl (hb hby d3_126)
  refine oS (B := T17.setTop (mkF m 129 #[rv b0, rv sa, iv 0, iv 65536] [(.int 0), (.ref b0)])) (fun t k => st17 t k) ?_
  refine oS (B := T17.setTop (mkF m 130 #[rv b0, rv sa, iv 0, iv 65536] [(.int 65536), (.int 0), (.ref b0)])) (fun t k => XS.iloadN X17.here hx rfl (hb hby d3_129) rfl k) ?_
  refine oS (B := T17.setTop (mkF m 131 #[rv b0, rv sa, iv 0, iv 65536] [(.int 65536), (.ref b0)])) (fun t k => XS.iadd X17.here hx rfl (hb hby d3_130) rfl k) ?_
  obtain ⟨T18, h18, X18, e18, W18, st18⟩ := putF X17 hx hZ hown (host := "") (Or.inl (ow hw 28 rfl)) Via.refl e17 F_lastLength_b0 E_b0 (Or.inl (ow hw 29 rfl)) (ow hw 2 rfl) (ty := .int) (by decide) rfl rfl (g := (mkF m 131 #[rv b0, rv sa, iv 0, iv 65536] [(.int 65536), (.ref b0)])) rfl rfl (hb hby d3_131)
  have E_b0 := E_b0.wr W18
  have F_full_b0 := F_full_b0.other W18 (Or.inr (slot_ne (Or.inl (ow hw 27 rfl)) (Or.inl (ow hw 29 rfl)) (by decide) (t := (.object "java/util/List")) (t' := .int) (by decide) (by decide)))
  have F_last_b0 := F_last_b0.other W18 (Or.inr (slot_ne (Or.inl (ow hw 13 rfl)) (Or.inl (ow hw 29 rfl)) (by decide) (t := (.array .byte)) (t' := .int) (by decide) (by decide)))
  have F_lastLength_b0 := F_lastLength_b0.same W18
  have F_length_b0 := F_length_b0.other W18 (Or.inr (slot_ne (Or.inl (ow hw 20 rfl)) (Or.inl (ow hw 29 rfl)) (by decide) (t := .int) (t' := .int) (by decide) (by decide)))
  have V_sa := V_sa.other W18 (Ne.symm ne_b0_sa)
  have E_em := E_em.wr W18
  have V_em := V_em.other W18 (ne_exa E_em E_b0 (by decide))
  have V_de := V_de.other W18 (O0.ne BB.2.2.2.2.lt g_b0)
  have E_la := E_la.wr W18
  have V_la := V_la.other W18 (Ne.symm ne_b0_la)
  have Z0 := Nat.le_trans Z0 (Keep.of_wr W18).1
  have K0 := K0.wr W18 (Or.inl (List.mem_of_getElem? (i := 0) rfl))
  have N0 := Fr.snoc X18 N0 g_b0
  have O0 := O0.wr W18 g_b0
  refine oS (B := T18.setTop (mkF m 134 #[rv b0, rv sa, iv 0, iv 65536] [])) (fun t k => st18 t k) ?_
  refine oS (B := T18.setTop (mkF m 135 #[rv b0, rv sa, iv 0, iv 65536] [(.int 0)])) (fun t k => XS.iloadN X18.here hx rfl (hb hby d3_134) rfl k) ?_
  refine oS (B := T18.setTop (mkF m 136 #[rv b0, rv sa, iv 0, iv 65536] [(.int 65536), (.int 0)])) (fun t k => XS.iloadN X18.here hx rfl (hb hby d3_135) rfl k) ?_
  refine oS (B := T18.setTop (mkF m 137 #[rv b0, rv sa, iv 0, iv 65536] [(.int 65536)])) (fun t k => XS.iadd X18.here hx rfl (hb hby d3_136) rfl k) ?_
  refine oS (B := T18.setTop (mkF m 138 #[rv b0, rv sa, iv 65536, iv 65536] [])) (fun t k => XS.istoreN X18.here hx rfl (hb hby d3_137) rfl (l' := #[rv b0, rv sa, iv 65536, iv 65536]) rfl k) ?_
  refine oS (B := T18.setTop (mkF m 2 #[rv b0, rv sa, iv 65536, iv 65536] [])) (fun t k => XS.goto X18.here hx rfl (pc0 := 138) (pc' := 2) rfl (hb hby d3_138) (by decide) (by decide) k) ?_
  refine oS (B := T18.setTop (mkF m 3 #[rv b0, rv sa, iv 65536, iv 65536] [(.int 65536)])) (fun t k => XS.iloadN X18.here hx rfl (hb hby d3_2) rfl k) ?_
  refine oS (B := T18.setTop (mkF m 4 #[rv b0, rv sa, iv 65536, iv 65536] [(.ref sa), (.int 65536)])) (fun t k => XS.aloadN X18.here hx rfl (hb hby d3_3) rfl rfl k) ?_
  have Vo_19 := V_sa
  obtain ⟨cl_19, Ar_19, q_19, S_19, M_19, H_19, G_19⟩ := Vo_19
  refine oS (B := T18.setTop (mkF m 5 #[rv b0, rv sa, iv 65536, iv 65536] [(.int 65538), (.int 65536)])) (fun t k => X18.arraylength hx (by rw [e18]; exact Ar_19.1) (State.isArrayOf_alike hZ.alike Ar_19.2.1) (g := (mkF m 4 #[rv b0, rv sa, iv 65536, iv 65536] [(.ref sa), (.int 65536)])) rfl rfl (hb hby d3_4) t (by rw [len_of S_19 M_19]; exact k)) ?_
  refine oS (B := T18.setTop (mkF m 8 #[rv b0, rv sa, iv 65536, iv 65536] [])) (fun t k => XS.icmpNo X18.here hx rfl (hb hby d3_5) rfl (tlt (by decide)).2.1 k) ?_
  refine oS (B := T18.setTop (mkF m 9 #[rv b0, rv sa, iv 65536, iv 65536] [(.ref b0)])) (fun t k => XS.aloadN X18.here hx rfl (hb hby d3_8) rfl rfl k) ?_
  obtain ⟨T20, X20, e20, st20⟩ := getF X18 hx hZ hown (host := "") (Or.inl (ow hw 28 rfl)) Via.refl e18 F_lastLength_b0 (g := (mkF m 9 #[rv b0, rv sa, iv 65536, iv 65536] [(.ref b0)])) rfl rfl (hb hby d3_9)
  refine oS (B := T20.setTop (mkF m 12 #[rv b0, rv sa, iv 65536, iv 65536] [(.int 65536)])) (fun t k => st20 t k) ?_
  refine oS (B := T20.setTop (mkF m 14 #[rv b0, rv sa, iv 65536, iv 65536] [(.int 65536), (.int 65536)])) (fun t k => X20.ldcInt hx hown (mvT hZ (ow hw 54 rfl)) (g := (mkF m 12 #[rv b0, rv sa, iv 65536, iv 65536] [(.int 65536)])) rfl (hb hby d3_12) t k) ?_
  refine oS (B := T20.setTop (mkF m 17 #[rv b0, rv sa, iv 65536, iv 65536] [])) (fun t k => XS.icmpNo X20.here hx rfl (hb hby d3_14) rfl (teq rfl).2 k) ?_
  refine oS (B := T20.setTop (mkF m 18 #[rv b0, rv sa, iv 65536, iv 65536] [(.ref b0)])) (fun t k => XS.aloadN X20.here hx rfl (hb hby d3_17) rfl rfl k) ?_
  obtain ⟨T21, X21, e21, st21⟩ := getF X20 hx hZ hown (host := "") (Or.inl (ow hw 26 rfl)) Via.refl e20 F_full_b0 (g := (mkF m 18 #[rv b0, rv sa, iv 65536, iv 65536] [(.ref b0)])) rfl rfl (hb hby d3_18)
  refine oS (B := T21.setTop (mkF m 21 #[rv b0, rv sa, iv 65536, iv 65536] [.null])) (fun t k => st21 t k) ?_
  refine oS (B := T21.setTop (mkF m 24 #[rv b0, rv sa, iv 65536, iv 65536] [])) (fun t k => XS.ifnonnullNo X21.here hx rfl (hb hby d3_21) rfl k) ?_
  refine oS (B := T21.setTop (mkF m 25 #[rv b0, rv sa, iv 65536, iv 65536] [(.ref b0)])) (fun t k => XS.aloadN X21.here hx rfl (hb hby d3_24) rfl rfl k) ?_
  obtain ⟨T22, h22, X22, e22, E22, A22, D22, -, st22⟩ := newO X21 hx hZ hown (ow hw 77 rfl) (ow hw 78 rfl) (ow hw 79 rfl) e21 (g := (mkF m 25 #[rv b0, rv sa, iv 65536, iv 65536] [(.ref b0)])) rfl (hb hby d3_25) (by decide) (by decide)
  obtain ⟨li, g22⟩ : ∃ z, z = h18.size := ⟨_, rfl⟩
  rw [← g22] at A22 D22 st22
  have g_li : n0 ≤ li := Nat.le_trans Z0 (Nat.le_of_eq g22.symm)
  have sz_li : h0.size ≤ li := Nat.le_trans K0.1 (Nat.le_of_eq g22.symm)
  have ne_b0_li : b0 ≠ li := Nat.ne_of_lt (Nat.lt_of_lt_of_le E_b0.lt (Nat.le_of_eq g22.symm))
  have ne_sa_li : sa ≠ li := Nat.ne_of_lt (Nat.lt_of_lt_of_le V_sa.lt (Nat.le_of_eq g22.symm))
  have ne_em_li : em ≠ li := Nat.ne_of_lt (Nat.lt_of_lt_of_le E_em.lt (Nat.le_of_eq g22.symm))
  have ne_de_li : de ≠ li := Nat.ne_of_lt (Nat.lt_of_lt_of_le V_de.lt (Nat.le_of_eq g22.symm))
  have ne_la_li : la ≠ li := Nat.ne_of_lt (Nat.lt_of_lt_of_le E_la.lt (Nat.le_of_eq g22.symm))
  have E_b0 := E_b0.ext E22
  have F_full_b0 := F_full_b0.ext E22
  have F_last_b0 := F_last_b0.ext E22
  have F_lastLength_b0 := F_lastLength_b0.ext E22
  have F_length_b0 := F_length_b0.ext E22
  have V_sa := V_sa.ext E22
  have E_em := E_em.ext E22
  have V_em := V_em.ext E22
  have V_de := V_de.ext E22
  have E_la := E_la.ext E22
  have V_la := V_la.ext E22
  have Z0 := Nat.le_trans Z0 E22.1
  have O0 := O0.ext E22
  have K0 := K0.ext E22
  have E_li := A22
  have F_modCount_li : Fld Z h22 li "java/util/AbstractList" "modCount" "I" (.int 0) := D22 (Or.inl (ow hw 97 rfl)) (ty := .int) (by decide)
  have F_elementData_li : Fld Z h22 li "java/util/ArrayList" "elementData" "[Ljava/lang/Object;" .null := D22 (Or.inl (ow hw 100 rfl)) (ty := (.array (.object "java/lang/Object"))) (by decide)
  have F_size_li : Fld Z h22 li "java/util/ArrayList" "size" "I" (.int 0) := D22 (Or.inl (ow hw 113 rfl)) (ty := .int) (by decide)
  refine oS (B := T22.setTop (mkF m 28 #[rv b0, rv sa, iv 65536, iv 65536] [(.ref li), (.ref b0)])) (fun t k => st22 t k) ?_
  refine oS (B := T22.setTop (mkF m 29 #[rv b0, rv sa, iv 65536, iv 65536] [(.ref li), (.ref li), (.ref b0)])) (fun t k => XS.dup X22.here hx rfl (hb hby d3_28) rfl rfl k) ?_
  obtain ⟨_, _, ⟨T23, L23, k23, n23⟩, -, X23, ⟨Lc23, hQ23, l23, y23, z23⟩, st23⟩ := X22.specialBack hx (y := (⟨"java/util/ArrayList", "<init>", "()V"⟩ : MethodName)) rfl hown (mvT hZ (ow hw 80 rfl)) (mvT hZ (ow hw 81 rfl)) (mvT hZ (ow hw 82 rfl)) (by decide) (backOf (W := 2) (rm12 l Z a0 hw [] li em ke de kd h22 n0 Z0 E_li g_li F_modCount_li F_elementData_li F_size_li BB O0) hZ (ow hw 82 rfl) (ow hw 79 rfl) (by decide) (by decide)) (g := (mkF m 29 #[rv b0, rv sa, iv 65536, iv 65536] [(.ref li), (.ref li), (.ref b0)])) rfl (by rw [hml]; rfl) (Steps.refl _) (a := li) (argsL := []) (rest := [(.ref li), (.ref b0)]) (lenOf pd_2 rfl) rfl (by show 2 * 0 + _ ≤ _; exact Nat.le_of_eq rfl) (hb hby d3_29) (fun _ _ => ⟨rfl, e22, (by decide : 2 + 0 ≤ _), (by decide : 65539 + 0 ≤ _)⟩)
  dsimp only [Pt.U, Pt.locs, Pt.cells, Pt.slots] at X23 l23 y23 z23 st23 hQ23
  subst l23 y23 z23
  obtain ⟨rfl, N23q, K23, G0_23, G1_23, G2_23⟩ := hQ23
  have N0 := Fr.app N0 N23q
  have E_b0 := E_b0.keep K23
  have F_full_b0 := F_full_b0.keep K23 (ninS ne_b0_li nin0)
  have F_last_b0 := F_last_b0.keep K23 (ninS ne_b0_li nin0)
  have F_lastLength_b0 := F_lastLength_b0.keep K23 (ninS ne_b0_li nin0)
  have F_length_b0 := F_length_b0.keep K23 (ninS ne_b0_li nin0)
  have V_sa := V_sa.keep K23 (ninS ne_sa_li nin0)
  have E_em := E_em.keep K23
  have V_em := V_em.keep K23 (ninS ne_em_li nin0)
  have V_de := V_de.keep K23 (ninS ne_de_li nin0)
  have E_la := E_la.keep K23
  have V_la := V_la.keep K23 (ninS ne_la_li nin0)
  have E_li := E_li.keep K23
  have Z0 := Nat.le_trans Z0 K23.1
  have O0 := O0.keep K23 (allS g_li all0)
  have K0 := K0.trans K23 (allS (Or.inr sz_li) all0)
  have F_modCount_li := G0_23
  have F_elementData_li := G1_23
  have F_size_li := G2_23
  refine oS (B := T23.setTop (mkF m 32 #[rv b0, rv sa, iv 65536, iv 65536] [(.ref li), (.ref b0)])) (fun t k => st23.trans k) ?_
  obtain ⟨T24, h24, X24, e24, W24, st24⟩ := putF X23 hx hZ hown (host := "") (Or.inl (ow hw 26 rfl)) Via.refl rfl F_full_b0 E_b0 (Or.inl (ow hw 27 rfl)) (ow hw 2 rfl) (ty := (.object "java/util/List")) (by decide) rfl rfl (g := (mkF m 32 #[rv b0, rv sa, iv 65536, iv 65536] [(.ref li), (.ref b0)])) rfl rfl (hb hby d3_32)
  have E_b0 := E_b0.wr W24
  have F_full_b0 := F_full_b0.same W24
  have F_last_b0 := F_last_b0.other W24 (Or.inr (slot_ne (Or.inl (ow hw 13 rfl)) (Or.inl (ow hw 27 rfl)) (by decide) (t := (.array .byte)) (t' := (.object "java/util/List")) (by decide) (by decide)))
  have F_lastLength_b0 := F_lastLength_b0.other W24 (Or.inr (slot_ne (Or.inl (ow hw 29 rfl)) (Or.inl (ow hw 27 rfl)) (by decide) (t := .int) (t' := (.object "java/util/List")) (by decide) (by decide)))
  have F_length_b0 := F_length_b0.other W24 (Or.inr (slot_ne (Or.inl (ow hw 20 rfl)) (Or.inl (ow hw 27 rfl)) (by decide) (t := .int) (t' := (.object "java/util/List")) (by decide) (by decide)))
  have V_sa := V_sa.other W24 (Ne.symm ne_b0_sa)
  have E_em := E_em.wr W24
  have V_em := V_em.other W24 (ne_exa E_em E_b0 (by decide))
  have V_de := V_de.other W24 (O0.ne BB.2.2.2.2.lt g_b0)
  have E_la := E_la.wr W24
  have V_la := V_la.other W24 (Ne.symm ne_b0_la)
  have E_li := E_li.wr W24
  have F_modCount_li := F_modCount_li.other W24 (Or.inl (Ne.symm ne_b0_li))
  have F_elementData_li := F_elementData_li.other W24 (Or.inl (Ne.symm ne_b0_li))
  have F_size_li := F_size_li.other W24 (Or.inl (Ne.symm ne_b0_li))
  have Z0 := Nat.le_trans Z0 (Keep.of_wr W24).1
  have K0 := K0.wr W24 (Or.inl (List.mem_of_getElem? (i := 0) rfl))
  have N0 := Fr.snoc X24 N0 g_b0
  have O0 := O0.wr W24 g_b0
  refine oS (B := T24.setTop (mkF m 35 #[rv b0, rv sa, iv 65536, iv 65536] [])) (fun t k => st24 t k) ?_
  refine oS (B := T24.setTop (mkF m 36 #[rv b0, rv sa, iv 65536, iv 65536] [(.ref b0)])) (fun t k => XS.aloadN X24.here hx rfl (hb hby d3_35) rfl rfl k) ?_
  obtain ⟨T25, X25, e25, st25⟩ := getF X24 hx hZ hown (host := "") (Or.inl (ow hw 26 rfl)) Via.refl e24 F_full_b0 (g := (mkF m 36 #[rv b0, rv sa, iv 65536, iv 65536] [(.ref b0)])) rfl rfl (hb hby d3_36)
  refine oS (B := T25.setTop (mkF m 39 #[rv b0, rv sa, iv 65536, iv 65536] [(.ref li)])) (fun t k => st25 t k) ?_
  refine oS (B := T25.setTop (mkF m 40 #[rv b0, rv sa, iv 65536, iv 65536] [(.ref b0), (.ref li)])) (fun t k => XS.aloadN X25.here hx rfl (hb hby d3_39) rfl rfl k) ?_
  obtain ⟨T26, X26, e26, st26⟩ := getF X25 hx hZ hown (host := "") (Or.inl (ow hw 12 rfl)) Via.refl e25 F_last_b0 (g := (mkF m 40 #[rv b0, rv sa, iv 65536, iv 65536] [(.ref b0), (.ref li)])) rfl rfl (hb hby d3_40)
  refine oS (B := T26.setTop (mkF m 43 #[rv b0, rv sa, iv 65536, iv 65536] [(.ref la), (.ref li)])) (fun t k => st26 t k) ?_
  obtain ⟨cq27, kq27, q27a, q27b, q27c⟩ := isOf hZ e26 E_li
  obtain ⟨_, _, ⟨T27, L27, k27, n27⟩, -, X27, ⟨Lc27, hQ27, l27, y27, z27⟩, st27⟩ := X26.interfaceBack hx (xi := (⟨"java/util/List", "add", "(Ljava/lang/Object;)Z"⟩ : MethodName)) (y := (⟨"java/util/ArrayList", "add", "(Ljava/lang/Object;)Z"⟩ : MethodName)) hown (mvT hZ (ow hw 101 rfl)) (mvT hZ (ow hw 102 rfl)) (mvT hZ (ow hw 103 rfl)) (mvT hZ (ow hw 104 rfl)) (mvT hZ (ow hw 105 rfl)) (mvT hZ (ow hw 106 rfl)) (mvT hZ (ow hw 107 rfl)) (mvT hZ (ow hw 108 rfl)) (by decide) (backOf (W := 0) (rmadd l Z a0 hw [] li la em ke de kd h24 n0 Z0 E_li g_li F_modCount_li F_elementData_li F_size_li BB O0 E_la) hZ (ow hw 109 rfl) (ow hw 79 rfl) (by decide) (by decide)) q27a q27b q27c (g := (mkF m 43 #[rv b0, rv sa, iv 65536, iv 65536] [(.ref la), (.ref li)])) rfl (by rw [hml]; rfl) (Steps.refl _) (argsL := [(.ref la)]) (rest := []) (lenOf pd_7 rfl) rfl (by show 2 * 0 + _ ≤ _; exact Nat.le_of_eq rfl) (hb hby d3_43) (fun _ _ => ⟨rfl, e26, (by decide : 2 + 1 ≤ _), (by decide : 65539 + 10 ≤ _)⟩)
  dsimp only [Pt.U, Pt.locs, Pt.cells, Pt.slots] at X27 l27 y27 z27 st27 hQ27
  subst l27 y27 z27
  obtain ⟨rfl, N27q, K27⟩ := hQ27
  have N0 := Fr.app N0 N27q
  have E_b0 := E_b0.keep K27
  have F_full_b0 := F_full_b0.keep K27 (ninS ne_b0_li nin0)
  have F_last_b0 := F_last_b0.keep K27 (ninS ne_b0_li nin0)
  have F_lastLength_b0 := F_lastLength_b0.keep K27 (ninS ne_b0_li nin0)
  have F_length_b0 := F_length_b0.keep K27 (ninS ne_b0_li nin0)
  have V_sa := V_sa.keep K27 (ninS ne_sa_li nin0)
  have E_em := E_em.keep K27
  have V_em := V_em.keep K27 (ninS ne_em_li nin0)
  have V_de := V_de.keep K27 (ninS ne_de_li nin0)
  have E_la := E_la.keep K27
  have V_la := V_la.keep K27 (ninS ne_la_li nin0)
  have E_li := E_li.keep K27
  have Z0 := Nat.le_trans Z0 K27.1
  have O0 := O0.keep K27 (allS g_li all0)
  have K0 := K0.trans K27 (allS (Or.inr sz_li) all0)
  refine oS (B := T27.setTop (mkF m 48 #[rv b0, rv sa, iv 65536, iv 65536] [(.int 1)])) (fun t k => st27.trans k) ?_
  refine oS (B := T27.setTop (mkF m 49 #[rv b0, rv sa, iv 65536, iv 65536] [])) (fun t k => XS.pop X27.here hx rfl (hb hby d3_48) rfl rfl k) ?_
  refine oS (B := T27.setTop (mkF m 50 #[rv b0, rv sa, iv 65536, iv 65536] [(.ref b0)])) (fun t k => XS.aloadN X27.here hx rfl (hb hby d3_49) rfl rfl k) ?_
  obtain ⟨T28, X28, e28, st28⟩ := getS2 X27 hx hZ hown (host := "") (Or.inl (ow hw 10 rfl)) Via.refl rfl (BB.1.ext O0.2) (g := (mkF m 50 #[rv b0, rv sa, iv 65536, iv 65536] [(.ref b0)])) rfl (hb hby d3_50)
  refine oS (B := T28.setTop (mkF m 53 #[rv b0, rv sa, iv 65536, iv 65536] [(.ref em), (.ref b0)])) (fun t k => st28 t k) ?_
  obtain ⟨T29, h29, X29, e29, W29, st29⟩ := putF X28 hx hZ hown (host := "") (Or.inl (ow hw 12 rfl)) Via.refl e28 F_last_b0 E_b0 (Or.inl (ow hw 13 rfl)) (ow hw 2 rfl) (ty := (.array .byte)) (by decide) rfl rfl (g := (mkF m 53 #[rv b0, rv sa, iv 65536, iv 65536] [(.ref em), (.ref b0)])) rfl rfl (hb hby d3_53)
  have E_b0 := E_b0.wr W29
  have F_full_b0 := F_full_b0.other W29 (Or.inr (slot_ne (Or.inl (ow hw 27 rfl)) (Or.inl (ow hw 13 rfl)) (by decide) (t := (.object "java/util/List")) (t' := (.array .byte)) (by decide) (by decide)))
  have F_last_b0 := F_last_b0.same W29
  have F_lastLength_b0 := F_lastLength_b0.other W29 (Or.inr (slot_ne (Or.inl (ow hw 29 rfl)) (Or.inl (ow hw 13 rfl)) (by decide) (t := .int) (t' := (.array .byte)) (by decide) (by decide)))
  have F_length_b0 := F_length_b0.other W29 (Or.inr (slot_ne (Or.inl (ow hw 20 rfl)) (Or.inl (ow hw 13 rfl)) (by decide) (t := .int) (t' := (.array .byte)) (by decide) (by decide)))
  have V_sa := V_sa.other W29 (Ne.symm ne_b0_sa)
  have E_em := E_em.wr W29
  have V_em := V_em.other W29 (ne_exa E_em E_b0 (by decide))
  have V_de := V_de.other W29 (O0.ne BB.2.2.2.2.lt g_b0)
  have E_la := E_la.wr W29
  have V_la := V_la.other W29 (Ne.symm ne_b0_la)
  have E_li := E_li.wr W29
  have Z0 := Nat.le_trans Z0 (Keep.of_wr W29).1
  have K0 := K0.wr W29 (Or.inl (List.mem_of_getElem? (i := 0) rfl))
  have N0 := Fr.snoc X29 N0 g_b0
  have O0 := O0.wr W29 g_b0
  refine oS (B := T29.setTop (mkF m 56 #[rv b0, rv sa, iv 65536, iv 65536] [])) (fun t k => st29 t k) ?_
  refine oS (B := T29.setTop (mkF m 57 #[rv b0, rv sa, iv 65536, iv 65536] [(.ref b0)])) (fun t k => XS.aloadN X29.here hx rfl (hb hby d3_56) rfl rfl k) ?_
  refine oS (B := T29.setTop (mkF m 58 #[rv b0, rv sa, iv 65536, iv 65536] [(.int 0), (.ref b0)])) (fun t k => XS.iconst X29.here hx rfl (hb hby d3_57) k) ?_
  obtain ⟨T30, h30, X30, e30, W30, st30⟩ := putF X29 hx hZ hown (host := "") (Or.inl (ow hw 28 rfl)) Via.refl e29 F_lastLength_b0 E_b0 (Or.inl (ow hw 29 rfl)) (ow hw 2 rfl) (ty := .int) (by decide) rfl rfl (g := (mkF m 58 #[rv b0, rv sa, iv 65536, iv 65536] [(.int 0), (.ref b0)])) rfl rfl (hb hby d3_58)
  have E_b0 := E_b0.wr W30
  have F_full_b0 := F_full_b0.other W30 (Or.inr (slot_ne (Or.inl (ow hw 27 rfl)) (Or.inl (ow hw 29 rfl)) (by decide) (t := (.object "java/util/List")) (t' := .int) (by decide) (by decide)))
  have F_last_b0 := F_last_b0.other W30 (Or.inr (slot_ne (Or.inl (ow hw 13 rfl)) (Or.inl (ow hw 29 rfl)) (by decide) (t := (.array .byte)) (t' := .int) (by decide) (by decide)))
  have F_lastLength_b0 := F_lastLength_b0.same W30
  have F_length_b0 := F_length_b0.other W30 (Or.inr (slot_ne (Or.inl (ow hw 20 rfl)) (Or.inl (ow hw 29 rfl)) (by decide) (t := .int) (t' := .int) (by decide) (by decide)))
  have V_sa := V_sa.other W30 (Ne.symm ne_b0_sa)
  have E_em := E_em.wr W30
  have V_em := V_em.other W30 (ne_exa E_em E_b0 (by decide))
  have V_de := V_de.other W30 (O0.ne BB.2.2.2.2.lt g_b0)
  have E_la := E_la.wr W30
  have V_la := V_la.other W30 (Ne.symm ne_b0_la)
  have E_li := E_li.wr W30
  have Z0 := Nat.le_trans Z0 (Keep.of_wr W30).1
  have K0 := K0.wr W30 (Or.inl (List.mem_of_getElem? (i := 0) rfl))
  have N0 := Fr.snoc X30 N0 g_b0
  have O0 := O0.wr W30 g_b0
  refine oS (B := T30.setTop (mkF m 61 #[rv b0, rv sa, iv 65536, iv 65536] [])) (fun t k => st30 t k) ?_
  refine oS (B := T30.setTop (mkF m 62 #[rv b0, rv sa, iv 65536, iv 65536] [(.ref sa)])) (fun t k => XS.aloadN X30.here hx rfl (hb hby d3_61) rfl rfl k) ?_
  have Vo_31 := V_sa
  obtain ⟨cl_31, Ar_31, q_31, S_31, M_31, H_31, G_31⟩ := Vo_31
  refine oS (B := T30.setTop (mkF m 63 #[rv b0, rv sa, iv 65536, iv 65536] [(.int 65538)])) (fun t k => X30.arraylength hx (by rw [e30]; exact Ar_31.1) (State.isArrayOf_alike hZ.alike Ar_31.2.1) (g := (mkF m 62 #[rv b0, rv sa, iv 65536, iv 65536] [(.ref sa)])) rfl rfl (hb hby d3_62) t (by rw [len_of S_31 M_31]; exact k)) ?_
  refine oS (B := T30.setTop (mkF m 64 #[rv b0, rv sa, iv 65536, iv 65536] [(.int 65536), (.int 65538)])) (fun t k => XS.iloadN X30.here hx rfl (hb hby d3_63) rfl k) ?_
  refine oS (B := T30.setTop (mkF m 65 #[rv b0, rv sa, iv 65536, iv 65536] [(.int 2)])) (fun t k => XS.isub X30.here hx rfl (hb hby d3_64) rfl k) ?_
  refine oS (B := T30.setTop (mkF m 67 #[rv b0, rv sa, iv 65536, iv 65536] [(.int 65536), (.int 2)])) (fun t k => X30.ldcInt hx hown (mvT hZ (ow hw 54 rfl)) (g := (mkF m 65 #[rv b0, rv sa, iv 65536, iv 65536] [(.int 2)])) rfl (hb hby d3_65) t k) ?_
  refine oS (B := T30.setTop (mkF m 68 #[rv b0, rv sa, iv 65536, iv 65536] [(.ref b0), (.int 65536), (.int 2)])) (fun t k => XS.aloadN X30.here hx rfl (hb hby d3_67) rfl rfl k) ?_
  obtain ⟨T32, X32, e32, st32⟩ := getF X30 hx hZ hown (host := "") (Or.inl (ow hw 28 rfl)) Via.refl e30 F_lastLength_b0 (g := (mkF m 68 #[rv b0, rv sa, iv 65536, iv 65536] [(.ref b0), (.int 65536), (.int 2)])) rfl rfl (hb hby d3_68)
  refine oS (B := T32.setTop (mkF m 71 #[rv b0, rv sa, iv 65536, iv 65536] [(.int 0), (.int 65536), (.int 2)])) (fun t k => st32 t k) ?_
  refine oS (B := T32.setTop (mkF m 72 #[rv b0, rv sa, iv 65536, iv 65536] [(.int 65536), (.int 2)])) (fun t k => XS.isub X32.here hx rfl (hb hby d3_71) rfl k) ?_
  obtain ⟨_, _, ⟨T33, L33, k33, n33⟩, -, X33, ⟨Lc33, hQ33, l33, y33, z33⟩, st33⟩ := Jvm.LawKit.callS X32 hx (y := (⟨"java/lang/Math", "min", "(II)I"⟩ : MethodName)) hown (mvT hZ (ow hw 55 rfl)) (mvT hZ (ow hw 56 rfl)) (mvT hZ (ow hw 57 rfl)) (mvT hZ (ow hw 58 rfl)) (by decide) (backOf (W := 0) (rm8 l Z a0 hw [] (2 : Int32) (65536 : Int32)  h30 n0 Z0 ) hZ (ow hw 58 rfl) (ow hw 57 rfl) (by decide) (by decide)) (g := (mkF m 72 #[rv b0, rv sa, iv 65536, iv 65536] [(.int 65536), (.int 2)])) rfl (by rw [hml]; rfl) (argsL := [(.int 2), (.int 65536)]) (rest := []) (lenOf pd_1 rfl) rfl (by show 2 * 0 + _ ≤ _; exact Nat.le_of_eq rfl) (hb hby d3_72) (fun _ _ => ⟨rfl, e32, (by decide : 3 + 0 ≤ _), (by decide : 65549 + 0 ≤ _)⟩)
  dsimp only [Pt.U, Pt.locs, Pt.cells, Pt.slots] at X33 l33 y33 z33 st33 hQ33
  subst l33 y33 z33
  obtain ⟨rfl, N33q, e33⟩ := hQ33
  have N0 := Fr.app N0 N33q
  refine oS (B := T33.setTop (mkF m 75 #[rv b0, rv sa, iv 65536, iv 65536] [(.int (own_min (2 : Int32) (65536 : Int32)))])) (fun t k => st33 t k) ?_
  have hlit33 : (own_min (2 : Int32) (65536 : Int32)) = (2 : Int32) := by decide
  rw [hlit33]
  refine oS (B := T33.setTop (mkF m 76 #[rv b0, rv sa, iv 65536, iv 2] [])) (fun t k => XS.istoreN X33.here hx rfl (hb hby d3_75) rfl (l' := #[rv b0, rv sa, iv 65536, iv 2]) rfl k) ?_
  refine oS (B := T33.setTop (mkF m 77 #[rv b0, rv sa, iv 65536, iv 2] [(.ref b0)])) (fun t k => XS.aloadN X33.here hx rfl (hb hby d3_76) rfl rfl k) ?_
  obtain ⟨T34, X34, e34, st34⟩ := getF X33 hx hZ hown (host := "") (Or.inl (ow hw 28 rfl)) Via.refl e33 F_lastLength_b0 (g := (mkF m 77 #[rv b0, rv sa, iv 65536, iv 2] [(.ref b0)])) rfl rfl (hb hby d3_77)
  refine oS (B := T34.setTop (mkF m 80 #[rv b0, rv sa, iv 65536, iv 2] [(.int 0)])) (fun t k => st34 t k) ?_
  refine oS (B := T34.setTop (mkF m 81 #[rv b0, rv sa, iv 65536, iv 2] [(.int 2), (.int 0)])) (fun t k => XS.iloadN X34.here hx rfl (hb hby d3_80) rfl k) ?_
  refine oS (B := T34.setTop (mkF m 82 #[rv b0, rv sa, iv 65536, iv 2] [(.int 2)])) (fun t k => XS.iadd X34.here hx rfl (hb hby d3_81) rfl k) ?_
  refine oS (B := T34.setTop (mkF m 83 #[rv b0, rv sa, iv 65536, iv 2] [(.ref b0), (.int 2)])) (fun t k => XS.aloadN X34.here hx rfl (hb hby d3_82) rfl rfl k) ?_
  obtain ⟨T35, X35, e35, st35⟩ := getF X34 hx hZ hown (host := "") (Or.inl (ow hw 12 rfl)) Via.refl e34 F_last_b0 (g := (mkF m 83 #[rv b0, rv sa, iv 65536, iv 2] [(.ref b0), (.int 2)])) rfl rfl (hb hby d3_83)
  refine oS (B := T35.setTop (mkF m 86 #[rv b0, rv sa, iv 65536, iv 2] [(.ref em), (.int 2)])) (fun t k => st35 t k) ?_
  have Vo_36 := V_em
  obtain ⟨cl_36, Ar_36, q_36, S_36, M_36, H_36, G_36⟩ := Vo_36
  refine oS (B := T35.setTop (mkF m 87 #[rv b0, rv sa, iv 65536, iv 2] [(.int 0), (.int 2)])) (fun t k => X35.arraylength hx (by rw [e35]; exact Ar_36.1) (State.isArrayOf_alike hZ.alike Ar_36.2.1) (g := (mkF m 86 #[rv b0, rv sa, iv 65536, iv 2] [(.ref em), (.int 2)])) rfl rfl (hb hby d3_86) t (by rw [len_of S_36 M_36]; exact k)) ?_
  refine oS (B := T35.setTop (mkF m 90 #[rv b0, rv sa, iv 65536, iv 2] [])) (fun t k => XS.icmpNo X35.here hx rfl (hb hby d3_87) rfl (tlt (by decide)).2.2.2 k) ?_
  refine oS (B := T35.setTop (mkF m 91 #[rv b0, rv sa, iv 65536, iv 2] [(.ref b0)])) (fun t k => XS.aloadN X35.here hx rfl (hb hby d3_90) rfl rfl k) ?_
  refine oS (B := T35.setTop (mkF m 92 #[rv b0, rv sa, iv 65536, iv 2] [(.ref b0), (.ref b0)])) (fun t k => XS.aloadN X35.here hx rfl (hb hby d3_91) rfl rfl k) ?_
  obtain ⟨T37, X37, e37, st37⟩ := getF X35 hx hZ hown (host := "") (Or.inl (ow hw 12 rfl)) Via.refl e35 F_last_b0 (g := (mkF m 92 #[rv b0, rv sa, iv 65536, iv 2] [(.ref b0), (.ref b0)])) rfl rfl (hb hby d3_92)
  refine oS (B := T37.setTop (mkF m 95 #[rv b0, rv sa, iv 65536, iv 2] [(.ref em), (.ref b0)])) (fun t k => st37 t k) ?_
  refine oS (B := T37.setTop (mkF m 96 #[rv b0, rv sa, iv 65536, iv 2] [(.ref b0), (.ref em), (.ref b0)])) (fun t k => XS.aloadN X37.here hx rfl (hb hby d3_95) rfl rfl k) ?_
  obtain ⟨T38, X38, e38, st38⟩ := getF X37 hx hZ hown (host := "") (Or.inl (ow hw 28 rfl)) Via.refl e37 F_lastLength_b0 (g := (mkF m 96 #[rv b0, rv sa, iv 65536, iv 2] [(.ref b0), (.ref em), (.ref b0)])) rfl rfl (hb hby d3_96)
  refine oS (B := T38.setTop (mkF m 99 #[rv b0, rv sa, iv 65536, iv 2] [(.int 0), (.ref em), (.ref b0)])) (fun t k => st38 t k) ?_
  refine oS (B := T38.setTop (mkF m 100 #[rv b0, rv sa, iv 65536, iv 2] [(.int 2), (.int 0), (.ref em), (.ref b0)])) (fun t k => XS.iloadN X38.here hx rfl (hb hby d3_99) rfl k) ?_
  refine oS (B := T38.setTop (mkF m 101 #[rv b0, rv sa, iv 65536, iv 2] [(.int 2), (.ref em), (.ref b0)])) (fun t k => XS.iadd X38.here hx rfl (hb hby d3_100) rfl k) ?_
  obtain ⟨_, _, ⟨T39, L39, k39, n39⟩, -, X39, ⟨Lc39, hQ39, l39, y39, z39⟩, st39⟩ := Jvm.LawKit.callS X38 hx (y := (⟨"com/example/loomwire/loomwire/transport/MessageBuffer", "chunkCapacity", "(I)I"⟩ : MethodName)) hown (mvT hZ (ow hw 59 rfl)) (mvT hZ (ow hw 60 rfl)) (mvT hZ (ow hw 3 rfl)) (mvT hZ (ow hw 61 rfl)) (by decide) (backOf (W := 2) (rm9_2 l Z a0 hw []   h30 n0 Z0 ) hZ (ow hw 61 rfl) (ow hw 3 rfl) (by decide) (by decide)) (g := (mkF m 101 #[rv b0, rv sa, iv 65536, iv 2] [(.int 2), (.ref em), (.ref b0)])) rfl (by rw [hml]; rfl) (argsL := [(.int 2)]) (rest := [(.ref em), (.ref b0)]) (lenOf pd_0 rfl) rfl (by show 2 * 0 + _ ≤ _; exact Nat.le_of_eq rfl) (hb hby d3_101) (fun _ _ => ⟨rfl, e38, (by decide : 3 + 0 ≤ _), (by decide : 65549 + 0 ≤ _)⟩)
  dsimp only [Pt.U, Pt.locs, Pt.cells, Pt.slots] at X39 l39 y39 z39 st39 hQ39
  subst l39 y39 z39
  obtain ⟨rfl, N39q, e39⟩ := hQ39
  have N0 := Fr.app N0 N39q
  refine oS (B := T39.setTop (mkF m 104 #[rv b0, rv sa, iv 65536, iv 2] [(.int 2), (.ref em), (.ref b0)])) (fun t k => st39 t k) ?_
  have lt_b0 := E_b0.lt
  have lt_sa := V_sa.lt
  have lt_la := E_la.lt
  have lt_li := E_li.lt
  have KZ := K0
  obtain ⟨_, _, ⟨T40, L40, k40, n40⟩, -, X40, ⟨Lc40, hQ40, l40, y40, z40⟩, st40⟩ := Jvm.LawKit.callS X39 hx (y := (⟨"java/util/Arrays", "copyOf", "([BI)[B"⟩ : MethodName)) hown (mvT hZ (ow hw 40 rfl)) (mvT hZ (ow hw 41 rfl)) (mvT hZ (ow hw 42 rfl)) (mvT hZ (ow hw 43 rfl)) (by decide) (backOf (W := 1) (rmg_2 l Z a0 hw []  em ke de kd h30 n0 Z0 BB O0) hZ (ow hw 43 rfl) (ow hw 42 rfl) (by decide) (by decide)) (g := (mkF m 104 #[rv b0, rv sa, iv 65536, iv 2] [(.int 2), (.ref em), (.ref b0)])) rfl (by rw [hml]; rfl) (argsL := [(.ref em), (.int 2)]) (rest := [(.ref b0)]) (lenOf pd_6 rfl) rfl (by show 2 * 0 + _ ≤ _; exact Nat.le_of_eq rfl) (hb hby d3_104) (fun _ _ => ⟨rfl, e39, (by decide : 3 + 1 ≤ _), (by decide : 65549 + 2 ≤ _)⟩)
  dsimp only [Pt.U, Pt.locs, Pt.cells, Pt.slots] at X40 l40 y40 z40 st40 hQ40
  subst l40 y40 z40
  obtain ⟨lb, klb, vlb, rfl, N40q, K40, g_lb, sz'_lb, E_lb, V_lb, hllb⟩ := hQ40
  have N0 := Fr.app N0 N40q
  have E_b0 := E_b0.keep K40
  have F_full_b0 := F_full_b0.keep K40 nin0
  have F_last_b0 := F_last_b0.keep K40 nin0
  have F_lastLength_b0 := F_lastLength_b0.keep K40 nin0
  have F_length_b0 := F_length_b0.keep K40 nin0
  have V_sa := V_sa.keep K40 nin0
  have E_em := E_em.keep K40
  have V_em := V_em.keep K40 nin0
  have V_de := V_de.keep K40 nin0
  have E_la := E_la.keep K40
  have V_la := V_la.keep K40 nin0
  have E_li := E_li.keep K40
  have Z0 := Nat.le_trans Z0 K40.1
  have O0 := O0.keep K40 all0
  have K0 := K0.trans K40 all0
  have ne_b0_lb : b0 ≠ lb := Nat.ne_of_lt (Nat.lt_of_lt_of_le lt_b0 sz'_lb)
  have ne_sa_lb : sa ≠ lb := Nat.ne_of_lt (Nat.lt_of_lt_of_le lt_sa sz'_lb)
  have ne_la_lb : la ≠ lb := Nat.ne_of_lt (Nat.lt_of_lt_of_le lt_la sz'_lb)
  have ne_li_lb : li ≠ lb := Nat.ne_of_lt (Nat.lt_of_lt_of_le lt_li sz'_lb)
  have sz_lb : h0.size ≤ lb := Nat.le_trans KZ.1 sz'_lb
  refine oS (B := T40.setTop (mkF m 107 #[rv b0, rv sa, iv 65536, iv 2] [(.ref lb), (.ref b0)])) (fun t k => st40 t k) ?_
  obtain ⟨T41, h41, X41, e41, W41, st41⟩ := putF X40 hx hZ hown (host := "") (Or.inl (ow hw 12 rfl)) Via.refl rfl F_last_b0 E_b0 (Or.inl (ow hw 13 rfl)) (ow hw 2 rfl) (ty := (.array .byte)) (by decide) rfl rfl (g := (mkF m 107 #[rv b0, rv sa, iv 65536, iv 2] [(.ref lb), (.ref b0)])) rfl rfl (hb hby d3_107)
  have E_b0 := E_b0.wr W41
  have F_full_b0 := F_full_b0.other W41 (Or.inr (slot_ne (Or.inl (ow hw 27 rfl)) (Or.inl (ow hw 13 rfl)) (by decide) (t := (.object "java/util/List")) (t' := (.array .byte)) (by decide) (by decide)))
  have F_last_b0 := F_last_b0.same W41
  have F_lastLength_b0 := F_lastLength_b0.other W41 (Or.inr (slot_ne (Or.inl (ow hw 29 rfl)) (Or.inl (ow hw 13 rfl)) (by decide) (t := .int) (t' := (.array .byte)) (by decide) (by decide)))
  have F_length_b0 := F_length_b0.other W41 (Or.inr (slot_ne (Or.inl (ow hw 20 rfl)) (Or.inl (ow hw 13 rfl)) (by decide) (t := .int) (t' := (.array .byte)) (by decide) (by decide)))
  have V_sa := V_sa.other W41 (Ne.symm ne_b0_sa)
  have E_em := E_em.wr W41
  have V_em := V_em.other W41 (ne_exa E_em E_b0 (by decide))
  have V_de := V_de.other W41 (O0.ne BB.2.2.2.2.lt g_b0)
  have E_la := E_la.wr W41
  have V_la := V_la.other W41 (Ne.symm ne_b0_la)
  have E_li := E_li.wr W41
  have E_lb := E_lb.wr W41
  have V_lb := V_lb.other W41 (Ne.symm ne_b0_lb)
  have Z0 := Nat.le_trans Z0 (Keep.of_wr W41).1
  have K0 := K0.wr W41 (Or.inl (List.mem_of_getElem? (i := 0) rfl))
  have N0 := Fr.snoc X41 N0 g_b0
  have O0 := O0.wr W41 g_b0
  refine oS (B := T41.setTop (mkF m 110 #[rv b0, rv sa, iv 65536, iv 2] [])) (fun t k => st41 t k) ?_
  refine oS (B := T41.setTop (mkF m 111 #[rv b0, rv sa, iv 65536, iv 2] [(.ref sa)])) (fun t k => XS.aloadN X41.here hx rfl (hb hby d3_110) rfl rfl k) ?_
  refine oS (B := T41.setTop (mkF m 112 #[rv b0, rv sa, iv 65536, iv 2] [(.int 65536), (.ref sa)])) (fun t k => XS.iloadN X41.here hx rfl (hb hby d3_111) rfl k) ?_
  refine oS (B := T41.setTop (mkF m 113 #[rv b0, rv sa, iv 65536, iv 2] [(.ref b0), (.int 65536), (.ref sa)])) (fun t k => XS.aloadN X41.here hx rfl (hb hby d3_112) rfl rfl k) ?_
  obtain ⟨T42, X42, e42, st42⟩ := getF X41 hx hZ hown (host := "") (Or.inl (ow hw 12 rfl)) Via.refl e41 F_last_b0 (g := (mkF m 113 #[rv b0, rv sa, iv 65536, iv 2] [(.ref b0), (.int 65536), (.ref sa)])) rfl rfl (hb hby d3_113)
  refine oS (B := T42.setTop (mkF m 116 #[rv b0, rv sa, iv 65536, iv 2] [(.ref lb), (.int 65536), (.ref sa)])) (fun t k => st42 t k) ?_
  refine oS (B := T42.setTop (mkF m 117 #[rv b0, rv sa, iv 65536, iv 2] [(.ref b0), (.ref lb), (.int 65536), (.ref sa)])) (fun t k => XS.aloadN X42.here hx rfl (hb hby d3_116) rfl rfl k) ?_
  obtain ⟨T43, X43, e43, st43⟩ := getF X42 hx hZ hown (host := "") (Or.inl (ow hw 28 rfl)) Via.refl e42 F_lastLength_b0 (g := (mkF m 117 #[rv b0, rv sa, iv 65536, iv 2] [(.ref b0), (.ref lb), (.int 65536), (.ref sa)])) rfl rfl (hb hby d3_117)
  refine oS (B := T43.setTop (mkF m 120 #[rv b0, rv sa, iv 65536, iv 2] [(.int 0), (.ref lb), (.int 65536), (.ref sa)])) (fun t k => st43 t k) ?_
  refine oS (B := T43.setTop (mkF m 121 #[rv b0, rv sa, iv 65536, iv 2] [(.int 2), (.int 0), (.ref lb), (.int 65536), (.ref sa)])) (fun t k => XS.iloadN X43.here hx rfl (hb hby d3_120) rfl k) ?_
  obtain ⟨T44, h44, L44, X44, e44, N44q, K44, VC44, st44⟩ := cpA X43 hx hZ hown (ow hw 76 rfl) (ow hw 75 rfl) (ow hw 73 rfl) (ow hw 74 rfl) e43 V_sa V_lb (Or.inl ⟨rfl, rfl⟩) (by decide) (by decide) (by decide) (by decide) (by decide) rfl (by rw [hllb]; decide) N0 g_lb (g := (mkF m 121 #[rv b0, rv sa, iv 65536, iv 2] [(.int 2), (.int 0), (.ref lb), (.int 65536), (.ref sa)])) rfl (by rw [hml]; rfl) rfl (hb hby d3_121) (by decide) (W := 0) (by show 2 * 0 + _ ≤ _; exact Nat.le_of_eq rfl) (by decide)
  have E_b0 := E_b0.keep K44
  have F_full_b0 := F_full_b0.keep K44 (ninS ne_b0_lb nin0)
  have F_last_b0 := F_last_b0.keep K44 (ninS ne_b0_lb nin0)
  have F_lastLength_b0 := F_lastLength_b0.keep K44 (ninS ne_b0_lb nin0)
  have F_length_b0 := F_length_b0.keep K44 (ninS ne_b0_lb nin0)
  have V_sa := V_sa.keep K44 (ninS ne_sa_lb nin0)
  have E_em := E_em.keep K44
  have V_em := V_em.keep K44 (ninS (O0.ne BB.2.2.1.lt g_lb) nin0)
  have V_de := V_de.keep K44 (ninS (O0.ne BB.2.2.2.2.lt g_lb) nin0)
  have E_la := E_la.keep K44
  have V_la := V_la.keep K44 (ninS ne_la_lb nin0)
  have E_li := E_li.keep K44
  have E_lb := E_lb.keep K44
  have Z0 := Nat.le_trans Z0 K44.1
  have O0 := O0.keep K44 (allS g_lb all0)
  have K0 := K0.trans K44 (allS (Or.inr sz_lb) all0)
  have N0 := N44q
  have V_lb := VC44
  refine oS (B := T44.setTop (mkF m 124 #[rv b0, rv sa, iv 65536, iv 2] [])) (fun t k => st44 t k) ?_
  refine oS (B := T44.setTop (mkF m 125 #[rv b0, rv sa, iv 65536, iv 2] [(.ref b0)])) (fun t k => XS.aloadN X44.here hx rfl (hb hby d3_124) rfl rfl k) ?_
  refine oS (B := T44.setTop (mkF m 126 #[rv b0, rv sa, iv 65536, iv 2] [(.ref b0), (.ref b0)])) (fun t k => XS.dup X44.here hx rfl (hb hby d3_125) rfl rfl k) ?_
  obtain ⟨T45, X45, e45, st45⟩ := getF X44 hx hZ hown (host := "") (Or.inl (ow hw 28 rfl)) Via.refl e44 F_lastLength_b0 (g := (mkF m 126 #[rv b0, rv sa, iv 65536, iv 2] [(.ref b0), (.ref b0)])) rfl rfl (hb hby d3_126)
  refine oS (B := T45.setTop (mkF m 129 #[rv b0, rv sa, iv 65536, iv 2] [(.int 0), (.ref b0)])) (fun t k => st45 t k) ?_
  refine oS (B := T45.setTop (mkF m 130 #[rv b0, rv sa, iv 65536, iv 2] [(.int 2), (.int 0), (.ref b0)])) (fun t k => XS.iloadN X45.here hx rfl (hb hby d3_129) rfl k) ?_
  refine oS (B := T45.setTop (mkF m 131 #[rv b0, rv sa, iv 65536, iv 2] [(.int 2), (.ref b0)])) (fun t k => XS.iadd X45.here hx rfl (hb hby d3_130) rfl k) ?_
  obtain ⟨T46, h46, X46, e46, W46, st46⟩ := putF X45 hx hZ hown (host := "") (Or.inl (ow hw 28 rfl)) Via.refl e45 F_lastLength_b0 E_b0 (Or.inl (ow hw 29 rfl)) (ow hw 2 rfl) (ty := .int) (by decide) rfl rfl (g := (mkF m 131 #[rv b0, rv sa, iv 65536, iv 2] [(.int 2), (.ref b0)])) rfl rfl (hb hby d3_131)
  have E_b0 := E_b0.wr W46
  have F_full_b0 := F_full_b0.other W46 (Or.inr (slot_ne (Or.inl (ow hw 27 rfl)) (Or.inl (ow hw 29 rfl)) (by decide) (t := (.object "java/util/List")) (t' := .int) (by decide) (by decide)))
  have F_last_b0 := F_last_b0.other W46 (Or.inr (slot_ne (Or.inl (ow hw 13 rfl)) (Or.inl (ow hw 29 rfl)) (by decide) (t := (.array .byte)) (t' := .int) (by decide) (by decide)))
  have F_lastLength_b0 := F_lastLength_b0.same W46
  have F_length_b0 := F_length_b0.other W46 (Or.inr (slot_ne (Or.inl (ow hw 20 rfl)) (Or.inl (ow hw 29 rfl)) (by decide) (t := .int) (t' := .int) (by decide) (by decide)))
  have V_sa := V_sa.other W46 (Ne.symm ne_b0_sa)
  have E_em := E_em.wr W46
  have V_em := V_em.other W46 (ne_exa E_em E_b0 (by decide))
  have V_de := V_de.other W46 (O0.ne BB.2.2.2.2.lt g_b0)
  have E_la := E_la.wr W46
  have V_la := V_la.other W46 (Ne.symm ne_b0_la)
  have E_li := E_li.wr W46
  have E_lb := E_lb.wr W46
  have V_lb := V_lb.other W46 (Ne.symm ne_b0_lb)
  have Z0 := Nat.le_trans Z0 (Keep.of_wr W46).1
  have K0 := K0.wr W46 (Or.inl (List.mem_of_getElem? (i := 0) rfl))
  have N0 := Fr.snoc X46 N0 g_b0
  have O0 := O0.wr W46 g_b0
  refine oS (B := T46.setTop (mkF m 134 #[rv b0, rv sa, iv 65536, iv 2] [])) (fun t k => st46 t k) ?_
  refine oS (B := T46.setTop (mkF m 135 #[rv b0, rv sa, iv 65536, iv 2] [(.int 65536)])) (fun t k => XS.iloadN X46.here hx rfl (hb hby d3_134) rfl k) ?_
  refine oS (B := T46.setTop (mkF m 136 #[rv b0, rv sa, iv 65536, iv 2] [(.int 2), (.int 65536)])) (fun t k => XS.iloadN X46.here hx rfl (hb hby d3_135) rfl k) ?_
  refine oS (B := T46.setTop (mkF m 137 #[rv b0, rv sa, iv 65536, iv 2] [(.int 65538)])) (fun t k => XS.iadd X46.here hx rfl (hb hby d3_136) rfl k) ?_
  refine oS (B := T46.setTop (mkF m 138 #[rv b0, rv sa, iv 65538, iv 2] [])) (fun t k => XS.istoreN X46.here hx rfl (hb hby d3_137) rfl (l' := #[rv b0, rv sa, iv 65538, iv 2]) rfl k) ?_
  refine oS (B := T46.setTop (mkF m 2 #[rv b0, rv sa, iv 65538, iv 2] [])) (fun t k => XS.goto X46.here hx rfl (pc0 := 138) (pc' := 2) rfl (hb hby d3_138) (by decide) (by decide) k) ?_
  refine oS (B := T46.setTop (mkF m 3 #[rv b0, rv sa, iv 65538, iv 2] [(.int 65538)])) (fun t k => XS.iloadN X46.here hx rfl (hb hby d3_2) rfl k) ?_
  refine oS (B := T46.setTop (mkF m 4 #[rv b0, rv sa, iv 65538, iv 2] [(.ref sa), (.int 65538)])) (fun t k => XS.aloadN X46.here hx rfl (hb hby d3_3) rfl rfl k) ?_
  have Vo_47 := V_sa
  obtain ⟨cl_47, Ar_47, q_47, S_47, M_47, H_47, G_47⟩ := Vo_47
  refine oS (B := T46.setTop (mkF m 5 #[rv b0, rv sa, iv 65538, iv 2] [(.int 65538), (.int 65538)])) (fun t k => X46.arraylength hx (by rw [e46]; exact Ar_47.1) (State.isArrayOf_alike hZ.alike Ar_47.2.1) (g := (mkF m 4 #[rv b0, rv sa, iv 65538, iv 2] [(.ref sa), (.int 65538)])) rfl rfl (hb hby d3_4) t (by rw [len_of S_47 M_47]; exact k)) ?_
  refine oS (B := T46.setTop (mkF m 141 #[rv b0, rv sa, iv 65538, iv 2] [])) (fun t k => XS.icmpYes X46.here hx rfl (pc0 := 5) (pc' := 141) rfl (hb hby d3_5) rfl (flt (by decide)).2.1 (by decide) (by decide) k) ?_
  refine oS (B := T46.setTop (mkF m 142 #[rv b0, rv sa, iv 65538, iv 2] [(.ref b0)])) (fun t k => XS.aloadN X46.here hx rfl (hb hby d3_141) rfl rfl k) ?_
  refine oS (B := T46.setTop (mkF m 143 #[rv b0, rv sa, iv 65538, iv 2] [(.ref b0), (.ref b0)])) (fun t k => XS.dup X46.here hx rfl (hb hby d3_142) rfl rfl k) ?_
  obtain ⟨T48, X48, e48, st48⟩ := getF X46 hx hZ hown (host := "") (Or.inl (ow hw 19 rfl)) Via.refl e46 F_length_b0 (g := (mkF m 143 #[rv b0, rv sa, iv 65538, iv 2] [(.ref b0), (.ref b0)])) rfl rfl (hb hby d3_143)
  refine oS (B := T48.setTop (mkF m 146 #[rv b0, rv sa, iv 65538, iv 2] [(.int 0), (.ref b0)])) (fun t k => st48 t k) ?_
  refine oS (B := T48.setTop (mkF m 147 #[rv b0, rv sa, iv 65538, iv 2] [(.ref sa), (.int 0), (.ref b0)])) (fun t k => XS.aloadN X48.here hx rfl (hb hby d3_146) rfl rfl k) ?_
  have Vo_49 := V_sa
  obtain ⟨cl_49, Ar_49, q_49, S_49, M_49, H_49, G_49⟩ := Vo_49
  refine oS (B := T48.setTop (mkF m 148 #[rv b0, rv sa, iv 65538, iv 2] [(.int 65538), (.int 0), (.ref b0)])) (fun t k => X48.arraylength hx (by rw [e48]; exact Ar_49.1) (State.isArrayOf_alike hZ.alike Ar_49.2.1) (g := (mkF m 147 #[rv b0, rv sa, iv 65538, iv 2] [(.ref sa), (.int 0), (.ref b0)])) rfl rfl (hb hby d3_147) t (by rw [len_of S_49 M_49]; exact k)) ?_
  refine oS (B := T48.setTop (mkF m 149 #[rv b0, rv sa, iv 65538, iv 2] [(.int 65538), (.ref b0)])) (fun t k => XS.iadd X48.here hx rfl (hb hby d3_148) rfl k) ?_
  obtain ⟨T50, h50, X50, e50, W50, st50⟩ := putF X48 hx hZ hown (host := "") (Or.inl (ow hw 19 rfl)) Via.refl e48 F_length_b0 E_b0 (Or.inl (ow hw 20 rfl)) (ow hw 2 rfl) (ty := .int) (by decide) rfl rfl (g := (mkF m 149 #[rv b0, rv sa, iv 65538, iv 2] [(.int 65538), (.ref b0)])) rfl rfl (hb hby d3_149)
  have E_b0 := E_b0.wr W50
  have F_full_b0 := F_full_b0.other W50 (Or.inr (slot_ne (Or.inl (ow hw 27 rfl)) (Or.inl (ow hw 20 rfl)) (by decide) (t := (.object "java/util/List")) (t' := .int) (by decide) (by decide)))
  have F_last_b0 := F_last_b0.other W50 (Or.inr (slot_ne (Or.inl (ow hw 13 rfl)) (Or.inl (ow hw 20 rfl)) (by decide) (t := (.array .byte)) (t' := .int) (by decide) (by decide)))
  have F_lastLength_b0 := F_lastLength_b0.other W50 (Or.inr (slot_ne (Or.inl (ow hw 29 rfl)) (Or.inl (ow hw 20 rfl)) (by decide) (t := .int) (t' := .int) (by decide) (by decide)))
  have F_length_b0 := F_length_b0.same W50
  have V_sa := V_sa.other W50 (Ne.symm ne_b0_sa)
  have E_em := E_em.wr W50
  have V_em := V_em.other W50 (ne_exa E_em E_b0 (by decide))
  have V_de := V_de.other W50 (O0.ne BB.2.2.2.2.lt g_b0)
  have E_la := E_la.wr W50
  have V_la := V_la.other W50 (Ne.symm ne_b0_la)
  have E_li := E_li.wr W50
  have E_lb := E_lb.wr W50
  have V_lb := V_lb.other W50 (Ne.symm ne_b0_lb)
  have Z0 := Nat.le_trans Z0 (Keep.of_wr W50).1
  have K0 := K0.wr W50 (Or.inl (List.mem_of_getElem? (i := 0) rfl))
  have N0 := Fr.snoc X50 N0 g_b0
  have O0 := O0.wr W50 g_b0
  refine oS (B := T50.setTop (mkF m 152 #[rv b0, rv sa, iv 65538, iv 2] [])) (fun t k => st50 t k) ?_
  exact own_retV X50 hx hlk Bd.returns (hb hby d3_152) (by decide) (by decide) (by rw [e50]; exact ⟨_, _, _, _, rfl, N0, K0, F_full_b0, F_last_b0, F_lastLength_b0, F_length_b0⟩)
theorem ef_rms_0 (m : MethodId) (x0 : Addr) (x1 : Addr) : entryFrame m #[(.ref x0), (.ref x1)] 4 = mkF m 0 #[rv x0, rv x1, .unset, .unset] [] := by first | (simp [entryFrame, mkF, argsToLocals, Value.category]; done) | rfl
def QQ_rms_0 (Z : State) (b0 : Addr) (sa : Addr) (em : Addr) (ke : ClassId) (de : Addr) (kd : ClassId) (ks : ClassId) (vs : List Value) (h0 : Heap) (n0 : Nat) (v : Option Value) (h : Heap) (L : List Loc) : Prop := v = none ∧ Fr n0 L ∧ Keep h0 h [b0] ∧ Fld Z h b0 "com/example/loomwire/loomwire/transport/MessageBuffer" "full" "Ljava/util/List;" .null ∧ Fld Z h b0 "com/example/loomwire/loomwire/transport/MessageBuffer" "last" "[B" (.ref em) ∧ Fld Z h b0 "com/example/loomwire/loomwire/transport/MessageBuffer" "lastLength" "I" (.int 0) ∧ Fld Z h b0 "com/example/loomwire/loomwire/transport/MessageBuffer" "length" "I" (.int 0)
set_option maxRecDepth 65536 in
set_option maxHeartbeats 40000000 in
theorem rms_0 (l : Launch) (Z : State) (a0 : Array Value) (hw : ∀ d ∈ tables_1, d.before a0 Z = true) (ws : List Jvm.Cond) (b0 : Addr) (sa : Addr) (em : Addr) (ke : ClassId) (de : Addr) (kd : ClassId) (ks : ClassId) (vs : List Value) (h0 : Heap) (n0 : Nat) (Z0 : n0 ≤ h0.size) (E_b0 : Exa Z h0 b0 "com/example/loomwire/loomwire/transport/MessageBuffer") (g_b0 : n0 ≤ b0) (F_full_b0 : Fld Z h0 b0 "com/example/loomwire/loomwire/transport/MessageBuffer" "full" "Ljava/util/List;" .null) (F_last_b0 : Fld Z h0 b0 "com/example/loomwire/loomwire/transport/MessageBuffer" "last" "[B" (.ref em)) (F_lastLength_b0 : Fld Z h0 b0 "com/example/loomwire/loomwire/transport/MessageBuffer" "lastLength" "I" (.int 0)) (F_length_b0 : Fld Z h0 b0 "com/example/loomwire/loomwire/transport/MessageBuffer" "length" "I" (.int 0)) (BB : own_Base Z em ke de kd) (O0 : Old Z n0 h0) (ne_b0_sa : b0 ≠ sa) (V_sa : Arv Z h0 sa ks .byte (0 : Int32) vs (.int 0)) :
    MetFree l (⟨"com/example/loomwire/loomwire/transport/MessageBuffer", "append", "([B)V"⟩ : MethodName) (head1 (Jvm.Cond.code (⟨"com/example/loomwire/loomwire/transport/MessageBuffer", "append", "([B)V"⟩ : MethodName) prog_102_method_4_code 4 none :: ws) ({ frames := 3, cells := 1, slots := 4, locals := 80 } : Room)) (fun a U => a = #[(.ref b0), (.ref sa)] ∧ Z.Warmed39 U.vm ∧ U.heap = h0) (fun _ _ _ _ _ => True) (fun _ U o U' => ∃ v L, o = .returned v ∧ (QQ_rms_0 Z b0 sa em ke de kd ks vs h0 n0) v U'.heap L ∧ FrameEnd U o U' L ({ frames := 3, cells := 1, slots := 4, locals := 80 } : Room).cells ({ frames := 3, cells := 1, slots := 4, locals := 80 } : Room).slots) := by
  refine MetFree.of_bodySF (plainFor_of_name pn_com_example_loomwire_loomwire_transport_MessageBuffer) hisR ?_
  intro p e s m args below meth c s₁ Bd hml0 hP hK
  obtain ⟨rfl, hZ, hh⟩ := hP
  have hx := Bd.exec
  have hby := Bd.bytes
  have hlk : meth.locks = false := BodyLoose.notSynchronized Bd
  have hml : c.maxLocals = 4 := hml0
  have hown : s.vm.findClass "com/example/loomwire/loomwire/transport/MessageBuffer" = some m.cls := findClass_of_methodNamed Bd.named
  have hnm := (name_of_methodNamed Bd.named Bd.method).1
  have X0 : Stand p l e ({ frames := 3, cells := 1, slots := 4, locals := 80 } : Room) s m #[(.ref b0), (.ref sa)] below meth c s₁ [] 0 0 := Stand.of_body Bd
  have e0 : s₁.heap = h0 := by rw [← hh, Bd.state]; rfl
  have N0 := Fr.nil n0
  show own_G p.tables e below s (QQ_rms_0 Z b0 sa em ke de kd ks vs h0 n0) ({ frames := 3, cells := 1, slots := 4, locals := 80 } : Room).cells ({ frames := 3, cells := 1, slots := 4, locals := 80 } : Room).slots (s₁.setTop (entryFrame m #[(.ref b0), (.ref sa)] 4))
  refine oS (B := s₁.setTop (mkF m 0 #[rv b0, rv sa, .unset, .unset] [])) (fun t k => castTop (ef_rms_0 m b0 sa) k) ?_
  have V_em := BB.2.2.1.ext O0.2
  have E_em := BB.2.1.ext O0.2
  have V_de := BB.2.2.2.2.ext O0.2
  have K0 := Keep.refl h0 [b0]
  refine oS (B := s₁.setTop (mkF m 1 #[rv b0, rv sa, .unset, .unset] [(.int 0)])) (fun t k => XS.iconst X0.here hx rfl (hb hby d3_0) k) ?_
  refine oS (B := s₁.setTop (mkF m 2 #[rv b0, rv sa, iv 0, .unset] [])) (fun t k => XS.istoreN X0.here hx rfl (hb hby d3_1) rfl (l' := #[rv b0, rv sa, iv 0, .unset]) rfl k) ?_
  refine oS (B := s₁.setTop (mkF m 3 #[rv b0, rv sa, iv 0, .unset] [(.int 0)])) (fun t k => XS.iloadN X0.here hx rfl (hb hby d3_2) rfl k) ?_
  refine oS (B := s₁.setTop (mkF m 4 #[rv b0, rv sa, iv 0, .unset] [(.ref sa), (.int 0)])) (fun t k => XS.aloadN X0.here hx rfl (hb hby d3_3) rfl rfl k) ?_
  have Vo_1 := V_sa
  obtain ⟨cl_1, Ar_1, q_1, S_1, M_1, H_1, G_1⟩ := Vo_1
  refine oS (B := s₁.setTop (mkF m 5 #[rv b0, rv sa, iv 0, .unset] [(.int 0), (.int 0)])) (fun t k => X0.arraylength hx (by rw [e0]; exact Ar_1.1) (State.isArrayOf_alike hZ.alike Ar_1.2.1) (g := (mkF m 4 #[rv b0, rv sa, iv 0, .unset] [(.ref sa), (.int 0)])) rfl rfl (hb hby d3_4) t (by rw [len_of S_1 M_1]; exact k)) ?_
  refine oS (B := s₁.setTop (mkF m 141 #[rv b0, rv sa, iv 0, .unset] [])) (fun t k => XS.icmpYes X0.here hx rfl (pc0 := 5) (pc' := 141) rfl (hb hby d3_5) rfl (flt (by decide)).2.1 (by decide) (by decide) k) ?_
  refine oS (B := s₁.setTop (mkF m 142 #[rv b0, rv sa, iv 0, .unset] [(.ref b0)])) (fun t k => XS.aloadN X0.here hx rfl (hb hby d3_141) rfl rfl k) ?_
  refine oS (B := s₁.setTop (mkF m 143 #[rv b0, rv sa, iv 0, .unset] [(.ref b0), (.ref b0)])) (fun t k => XS.dup X0.here hx rfl (hb hby d3_142) rfl rfl k) ?_
  obtain ⟨T2, X2, e2, st2⟩ := getF X0 hx hZ hown (host := "") (Or.inl (ow hw 19 rfl)) Via.refl e0 F_length_b0 (g := (mkF m 143 #[rv b0, rv sa, iv 0, .unset] [(.ref b0), (.ref b0)])) rfl rfl (hb hby d3_143)
  refine oS (B := T2.setTop (mkF m 146 #[rv b0, rv sa, iv 0, .unset] [(.int 0), (.ref b0)])) (fun t k => st2 t k) ?_
  refine oS (B := T2.setTop (mkF m 147 #[rv b0, rv sa, iv 0, .unset] [(.ref sa), (.int 0), (.ref b0)])) (fun t k => XS.aloadN X2.here hx rfl (hb hby d3_146) rfl rfl k) ?_
  have Vo_3 := V_sa
  obtain ⟨cl_3, Ar_3, q_3, S_3, M_3, H_3, G_3⟩ := Vo_3
  refine oS (B := T2.setTop (mkF m 148 #[rv b0, rv sa, iv 0, .unset] [(.int 0), (.int 0), (.ref b0)])) (fun t k => X2.arraylength hx (by rw [e2]; exact Ar_3.1) (State.isArrayOf_alike hZ.alike Ar_3.2.1) (g := (mkF m 147 #[rv b0, rv sa, iv 0, .unset] [(.ref sa), (.int 0), (.ref b0)])) rfl rfl (hb hby d3_147) t (by rw [len_of S_3 M_3]; exact k)) ?_
  refine oS (B := T2.setTop (mkF m 149 #[rv b0, rv sa, iv 0, .unset] [(.int 0), (.ref b0)])) (fun t k => XS.iadd X2.here hx rfl (hb hby d3_148) rfl k) ?_
  obtain ⟨T4, h4, X4, e4, W4, st4⟩ := putF X2 hx hZ hown (host := "") (Or.inl (ow hw 19 rfl)) Via.refl e2 F_length_b0 E_b0 (Or.inl (ow hw 20 rfl)) (ow hw 2 rfl) (ty := .int) (by decide) rfl rfl (g := (mkF m 149 #[rv b0, rv sa, iv 0, .unset] [(.int 0), (.ref b0)])) rfl rfl (hb hby d3_149)
  have E_b0 := E_b0.wr W4
  have F_full_b0 := F_full_b0.other W4 (Or.inr (slot_ne (Or.inl (ow hw 27 rfl)) (Or.inl (ow hw 20 rfl)) (by decide) (t := (.object "java/util/List")) (t' := .int) (by decide) (by decide)))
  have F_last_b0 := F_last_b0.other W4 (Or.inr (slot_ne (Or.inl (ow hw 13 rfl)) (Or.inl (ow hw 20 rfl)) (by decide) (t := (.array .byte)) (t' := .int) (by decide) (by decide)))
  have F_lastLength_b0 := F_lastLength_b0.other W4 (Or.inr (slot_ne (Or.inl (ow hw 29 rfl)) (Or.inl (ow hw 20 rfl)) (by decide) (t := .int) (t' := .int) (by decide) (by decide)))
  have F_length_b0 := F_length_b0.same W4
  have V_sa := V_sa.other W4 (Ne.symm ne_b0_sa)
  have E_em := E_em.wr W4
  have V_em := V_em.other W4 (ne_exa E_em E_b0 (by decide))
  have V_de := V_de.other W4 (O0.ne BB.2.2.2.2.lt g_b0)
  have Z0 := Nat.le_trans Z0 (Keep.of_wr W4).1
  have K0 := K0.wr W4 (Or.inl (List.mem_of_getElem? (i := 0) rfl))
  have N0 := Fr.snoc X4 N0 g_b0
  have O0 := O0.wr W4 g_b0
  refine oS (B := T4.setTop (mkF m 152 #[rv b0, rv sa, iv 0, .unset] [])) (fun t k => st4 t k) ?_
  exact own_retV X4 hx hlk Bd.returns (hb hby d3_152) (by decide) (by decide) (by rw [e4]; exact ⟨rfl, N0, K0, F_full_b0, F_last_b0, F_lastLength_b0, F_length_b0⟩)
theorem ef_rms_1 (m : MethodId) (x0 : Addr) (x1 : Addr) : entryFrame m #[(.ref x0), (.ref x1)] 4 = mkF m 0 #[rv x0, rv x1, .unset, .unset] [] := by first | (simp [entryFrame, mkF, argsToLocals, Value.category]; done) | rfl
def QQ_rms_1 (Z : State) (b0 : Addr) (sa : Addr) (em : Addr) (ke : ClassId) (de : Addr) (kd : ClassId) (ks : ClassId) (vs : List Value) (h0 : Heap) (n0 : Nat) (v : Option Value) (h : Heap) (L : List Loc) : Prop := ∃ (la : Addr) (kl : ClassId) (vl : List Value), v = none ∧ Fr n0 L ∧ Keep h0 h [b0] ∧ Fld Z h b0 "com/example/loomwire/loomwire/transport/MessageBuffer" "full" "Ljava/util/List;" .null ∧ Fld Z h b0 "com/example/loomwire/loomwire/transport/MessageBuffer" "last" "[B" (.ref la) ∧ Fld Z h b0 "com/example/loomwire/loomwire/transport/MessageBuffer" "lastLength" "I" (.int 1) ∧ Fld Z h b0 "com/example/loomwire/loomwire/transport/MessageBuffer" "length" "I" (.int 1) ∧ n0 ≤ la ∧ h0.size ≤ la ∧ Exa Z h la "[B" ∧ Arv Z h la kl .byte (1 : Int32) vl (.int 0) ∧ ∀ i, i < 1 → vl.getD i (.int 0) = vs.getD i (.int 0)
set_option maxRecDepth 65536 in
set_option maxHeartbeats 40000000 in
theorem rms_1 (l : Launch) (Z : State) (a0 : Array Value) (hw : ∀ d ∈ tables_1, d.before a0 Z = true) (ws : List Jvm.Cond) (b0 : Addr) (sa : Addr) (em : Addr) (ke : ClassId) (de : Addr) (kd : ClassId) (ks : ClassId) (vs : List Value) (h0 : Heap) (n0 : Nat) (Z0 : n0 ≤ h0.size) (E_b0 : Exa Z h0 b0 "com/example/loomwire/loomwire/transport/MessageBuffer") (g_b0 : n0 ≤ b0) (F_full_b0 : Fld Z h0 b0 "com/example/loomwire/loomwire/transport/MessageBuffer" "full" "Ljava/util/List;" .null) (F_last_b0 : Fld Z h0 b0 "com/example/loomwire/loomwire/transport/MessageBuffer" "last" "[B" (.ref em)) (F_lastLength_b0 : Fld Z h0 b0 "com/example/loomwire/loomwire/transport/MessageBuffer" "lastLength" "I" (.int 0)) (F_length_b0 : Fld Z h0 b0 "com/example/loomwire/loomwire/transport/MessageBuffer" "length" "I" (.int 0)) (BB : own_Base Z em ke de kd) (O0 : Old Z n0 h0) (ne_b0_sa : b0 ≠ sa) (V_sa : Arv Z h0 sa ks .byte (1 : Int32) vs (.int 0)) :
    MetFree l (⟨"com/example/loomwire/loomwire/transport/MessageBuffer", "append", "([B)V"⟩ : MethodName) (head1 (Jvm.Cond.code (⟨"com/example/loomwire/loomwire/transport/MessageBuffer", "append", "([B)V"⟩ : MethodName) prog_102_method_4_code 4 none :: ws) ({ frames := 3, cells := 1, slots := 4, locals := 80 } : Room)) (fun a U => a = #[(.ref b0), (.ref sa)] ∧ Z.Warmed39 U.vm ∧ U.heap = h0) (fun _ _ _ _ _ => True) (fun _ U o U' => ∃ v L, o = .returned v ∧ (QQ_rms_1 Z b0 sa em ke de kd ks vs h0 n0) v U'.heap L ∧ FrameEnd U o U' L ({ frames := 3, cells := 1, slots := 4, locals := 80 } : Room).cells ({ frames := 3, cells := 1, slots := 4, locals := 80 } : Room).slots) := by
  refine MetFree.of_bodySF (plainFor_of_name pn_com_example_loomwire_loomwire_transport_MessageBuffer) hisR ?_
  intro p e s m args below meth c s₁ Bd hml0 hP hK
  obtain ⟨rfl, hZ, hh⟩ := hP
  have hx := Bd.exec
  have hby := Bd.bytes
  have hlk : meth.locks = false := BodyLoose.notSynchronized Bd
  have hml : c.maxLocals = 4 := hml0
  have hown : s.vm.findClass "com/example/loomwire/loomwire/transport/MessageBuffer" = some m.cls := findClass_of_methodNamed Bd.named
  have hnm := (name_of_methodNamed Bd.named Bd.method).1
  have X0 : Stand p l e ({ frames := 3, cells := 1, slots := 4, locals := 80 } : Room) s m #[(.ref b0), (.ref sa)] below meth c s₁ [] 0 0 := Stand.of_body Bd
  have e0 : s₁.heap = h0 := by rw [← hh, Bd.state]; rfl
  have N0 := Fr.nil n0
  show own_G p.tables e below s (QQ_rms_1 Z b0 sa em ke de kd ks vs h0 n0) ({ frames := 3, cells := 1, slots := 4, locals := 80 } : Room).cells ({ frames := 3, cells := 1, slots := 4, locals := 80 } : Room).slots (s₁.setTop (entryFrame m #[(.ref b0), (.ref sa)] 4))
  refine oS (B := s₁.setTop (mkF m 0 #[rv b0, rv sa, .unset, .unset] [])) (fun t k => castTop (ef_rms_1 m b0 sa) k) ?_
  have V_em := BB.2.2.1.ext O0.2
  have E_em := BB.2.1.ext O0.2
  have V_de := BB.2.2.2.2.ext O0.2
  have K0 := Keep.refl h0 [b0]
  refine oS (B := s₁.setTop (mkF m 1 #[rv b0, rv sa, .unset, .unset] [(.int 0)])) (fun t k => XS.iconst X0.here hx rfl (hb hby d3_0) k) ?_
  refine oS (B := s₁.setTop (mkF m 2 #[rv b0, rv sa, iv 0, .unset] [])) (fun t k => XS.istoreN X0.here hx rfl (hb hby d3_1) rfl (l' := #[rv b0, rv sa, iv 0, .unset]) rfl k) ?_
  refine oS (B := s₁.setTop (mkF m 3 #[rv b0, rv sa, iv 0, .unset] [(.int 0)])) (fun t k => XS.iloadN X0.here hx rfl (hb hby d3_2) rfl k) ?_
  refine oS (B := s₁.setTop (mkF m 4 #[rv b0, rv sa, iv 0, .unset] [(.ref sa), (.int 0)])) (fun t k => XS.aloadN X0.here hx rfl (hb hby d3_3) rfl rfl k) ?_
  have Vo_1 := V_sa
  obtain ⟨cl_1, Ar_1, q_1, S_1, M_1, H_1, G_1⟩ := Vo_1
  refine oS (B := s₁.setTop (mkF m 5 #[rv b0, rv sa, iv 0, .unset] [(.int 1), (.int 0)])) (fun t k => X0.arraylength hx (by rw [e0]; exact Ar_1.1) (State.isArrayOf_alike hZ.alike Ar_1.2.1) (g := (mkF m 4 #[rv b0, rv sa, iv 0, .unset] [(.ref sa), (.int 0)])) rfl rfl (hb hby d3_4) t (by rw [len_of S_1 M_1]; exact k)) ?_
  refine oS (B := s₁.setTop (mkF m 8 #[rv b0, rv sa, iv 0, .unset] [])) (fun t k => XS.icmpNo X0.here hx rfl (hb hby d3_5) rfl (tlt (by decide)).2.1 k) ?_
  refine oS (B := s₁.setTop (mkF m 9 #[rv b0, rv sa, iv 0, .unset] [(.ref b0)])) (fun t k => XS.aloadN X0.here hx rfl (hb hby d3_8) rfl rfl k) ?_
  obtain ⟨T2, X2, e2, st2⟩ := getF X0 hx hZ hown (host := "") (Or.inl (ow hw 28 rfl)) Via.refl e0 F_lastLength_b0 (g := (mkF m 9 #[rv b0, rv sa, iv 0, .unset] [(.ref b0)])) rfl rfl (hb hby d3_9)
  refine oS (B := T2.setTop (mkF m 12 #[rv b0, rv sa, iv 0, .unset] [(.int 0)])) (fun t k => st2 t k) ?_
  refine oS (B := T2.setTop (mkF m 14 #[rv b0, rv sa, iv 0, .unset] [(.int 65536), (.int 0)])) (fun t k => X2.ldcInt hx hown (mvT hZ (ow hw 54 rfl)) (g := (mkF m 12 #[rv b0, rv sa, iv 0, .unset] [(.int 0)])) rfl (hb hby d3_12) t k) ?_
  refine oS (B := T2.setTop (mkF m 61 #[rv b0, rv sa, iv 0, .unset] [])) (fun t k => XS.icmpYes X2.here hx rfl (pc0 := 14) (pc' := 61) rfl (hb hby d3_14) rfl (feq (by decide)).2 (by decide) (by decide) k) ?_
  refine oS (B := T2.setTop (mkF m 62 #[rv b0, rv sa, iv 0, .unset] [(.ref sa)])) (fun t k => XS.aloadN X2.here hx rfl (hb hby d3_61) rfl rfl k) ?_
  have Vo_3 := V_sa
  obtain ⟨cl_3, Ar_3, q_3, S_3, M_3, H_3, G_3⟩ := Vo_3
  refine oS (B := T2.setTop (mkF m 63 #[rv b0, rv sa, iv 0, .unset] [(.int 1)])) (fun t k => X2.arraylength hx (by rw [e2]; exact Ar_3.1) (State.isArrayOf_alike hZ.alike Ar_3.2.1) (g := (mkF m 62 #[rv b0, rv sa, iv 0, .unset] [(.ref sa)])) rfl rfl (hb hby d3_62) t (by rw [len_of S_3 M_3]; exact k)) ?_
  refine oS (B := T2.setTop (mkF m 64 #[rv b0, rv sa, iv 0, .unset] [(.int 0), (.int 1)])) (fun t k => XS.iloadN X2.here hx rfl (hb hby d3_63) rfl k) ?_
  refine oS (B := T2.setTop (mkF m 65 #[rv b0, rv sa, iv 0, .unset] [(.int 1)])) (fun t k => XS.isub X2.here hx rfl (hb hby d3_64) rfl k) ?_
  refine oS (B := T2.setTop (mkF m 67 #[rv b0, rv sa, iv 0, .unset] [(.int 65536), (.int 1)])) (fun t k => X2.ldcInt hx hown (mvT hZ (ow hw 54 rfl)) (g := (mkF m 65 #[rv b0, rv sa, iv 0, .unset] [(.int 1)])) rfl (hb hby d3_65) t k) ?_
  refine oS (B := T2.setTop (mkF m 68 #[rv b0, rv sa, iv 0, .unset] [(.ref b0), (.int 65536), (.int 1)])) (fun t k => XS.aloadN X2.here hx rfl (hb hby d3_67) rfl rfl k) ?_
  obtain ⟨T4, X4, e4, st4⟩ := getF X2 hx hZ hown (host := "") (Or.inl (ow hw 28 rfl)) Via.refl e2 F_lastLength_b0 (g := (mkF m 68 #[rv b0, rv sa, iv 0, .unset] [(.ref b0), (.int 65536), (.int 1)])) rfl rfl (hb hby d3_68)
  refine oS (B := T4.setTop (mkF m 71 #[rv b0, rv sa, iv 0, .unset] [(.int 0), (.int 65536), (.int 1)])) (fun t k => st4 t k) ?_
  refine oS (B := T4.setTop (mkF m 72 #[rv b0, rv sa, iv 0, .unset] [(.int 65536), (.int 1)])) (fun t k => XS.isub X4.here hx rfl (hb hby d3_71) rfl k) ?_
  obtain ⟨_, _, ⟨T5, L5, k5, n5⟩, -, X5, ⟨Lc5, hQ5, l5, y5, z5⟩, st5⟩ := Jvm.LawKit.callS X4 hx (y := (⟨"java/lang/Math", "min", "(II)I"⟩ : MethodName)) hown (mvT hZ (ow hw 55 rfl)) (mvT hZ (ow hw 56 rfl)) (mvT hZ (ow hw 57 rfl)) (mvT hZ (ow hw 58 rfl)) (by decide) (backOf (W := 0) (rm8 l Z a0 hw [] (1 : Int32) (65536 : Int32)  h0 n0 Z0 ) hZ (ow hw 58 rfl) (ow hw 57 rfl) (by decide) (by decide)) (g := (mkF m 72 #[rv b0, rv sa, iv 0, .unset] [(.int 65536), (.int 1)])) rfl (by rw [hml]; rfl) (argsL := [(.int 1), (.int 65536)]) (rest := []) (lenOf pd_1 rfl) rfl (by show 2 * 0 + _ ≤ _; exact Nat.le_of_eq rfl) (hb hby d3_72) (fun _ _ => ⟨rfl, e4, (by decide : 0 + 0 ≤ _), (by decide : 0 + 0 ≤ _)⟩)
  dsimp only [Pt.U, Pt.locs, Pt.cells, Pt.slots] at X5 l5 y5 z5 st5 hQ5
  subst l5 y5 z5
  obtain ⟨rfl, N5q, e5⟩ := hQ5
  have N0 := Fr.app N0 N5q
  refine oS (B := T5.setTop (mkF m 75 #[rv b0, rv sa, iv 0, .unset] [(.int (own_min (1 : Int32) (65536 : Int32)))])) (fun t k => st5 t k) ?_
  have hlit5 : (own_min (1 : Int32) (65536 : Int32)) = (1 : Int32) := by decide
  rw [hlit5]
  refine oS (B := T5.setTop (mkF m 76 #[rv b0, rv sa, iv 0, iv 1] [])) (fun t k => XS.istoreN X5.here hx rfl (hb hby d3_75) rfl (l' := #[rv b0, rv sa, iv 0, iv 1]) rfl k) ?_
  refine oS (B := T5.setTop (mkF m 77 #[rv b0, rv sa, iv 0, iv 1] [(.ref b0)])) (fun t k => XS.aloadN X5.here hx rfl (hb hby d3_76) rfl rfl k) ?_
  obtain ⟨T6, X6, e6, st6⟩ := getF X5 hx hZ hown (host := "") (Or.inl (ow hw 28 rfl)) Via.refl e5 F_lastLength_b0 (g := (mkF m 77 #[rv b0, rv sa, iv 0, iv 1] [(.ref b0)])) rfl rfl (hb hby d3_77)
  refine oS (B := T6.setTop (mkF m 80 #[rv b0, rv sa, iv 0, iv 1] [(.int 0)])) (fun t k => st6 t k) ?_
  refine oS (B := T6.setTop (mkF m 81 #[rv b0, rv sa, iv 0, iv 1] [(.int 1), (.int 0)])) (fun t k => XS.iloadN X6.here hx rfl (hb hby d3_80) rfl k) ?_
  refine oS (B := T6.setTop (mkF m 82 #[rv b0, rv sa, iv 0, iv 1] [(.int 1)])) (fun t k => XS.iadd X6.here hx rfl (hb hby d3_81) rfl k) ?_
  refine oS (B := T6.setTop (mkF m 83 #[rv b0, rv sa, iv 0, iv 1] [(.ref b0), (.int 1)])) (fun t k => XS.aloadN X6.here hx rfl (hb hby d3_82) rfl rfl k) ?_
  obtain ⟨T7, X7, e7, st7⟩ := getF X6 hx hZ hown (host := "") (Or.inl (ow hw 12 rfl)) Via.refl e6 F_last_b0 (g := (mkF m 83 #[rv b0, rv sa, iv 0, iv 1] [(.ref b0), (.int 1)])) rfl rfl (hb hby d3_83)
  refine oS (B := T7.setTop (mkF m 86 #[rv b0, rv sa, iv 0, iv 1] [(.ref em), (.int 1)])) (fun t k => st7 t k) ?_
  have Vo_8 := V_em
  obtain ⟨cl_8, Ar_8, q_8, S_8, M_8, H_8, G_8⟩ := Vo_8
  refine oS (B := T7.setTop (mkF m 87 #[rv b0, rv sa, iv 0, iv 1] [(.int 0), (.int 1)])) (fun t k => X7.arraylength hx (by rw [e7]; exact Ar_8.1) (State.isArrayOf_alike hZ.alike Ar_8.2.1) (g := (mkF m 86 #[rv b0, rv sa, iv 0, iv 1] [(.ref em), (.int 1)])) rfl rfl (hb hby d3_86) t (by rw [len_of S_8 M_8]; exact k)) ?_
  refine oS (B := T7.setTop (mkF m 90 #[rv b0, rv sa, iv 0, iv 1] [])) (fun t k => XS.icmpNo X7.here hx rfl (hb hby d3_87) rfl (tlt (by decide)).2.2.2 k) ?_
  refine oS (B := T7.setTop (mkF m 91 #[rv b0, rv sa, iv 0, iv 1] [(.ref b0)])) (fun t k => XS.aloadN X7.here hx rfl (hb hby d3_90) rfl rfl k) ?_
  refine oS (B := T7.setTop (mkF m 92 #[rv b0, rv sa, iv 0, iv 1] [(.ref b0), (.ref b0)])) (fun t k => XS.aloadN X7.here hx rfl (hb hby d3_91) rfl rfl k) ?_
  obtain ⟨T9, X9, e9, st9⟩ := getF X7 hx hZ hown (host := "") (Or.inl (ow hw 12 rfl)) Via.refl e7 F_last_b0 (g := (mkF m 92 #[rv b0, rv sa, iv 0, iv 1] [(.ref b0), (.ref b0)])) rfl rfl (hb hby d3_92)
  refine oS (B := T9.setTop (mkF m 95 #[rv b0, rv sa, iv 0, iv 1] [(.ref em), (.ref b0)])) (fun t k => st9 t k) ?_
  refine oS (B := T9.setTop (mkF m 96 #[rv b0, rv sa, iv 0, iv 1] [(.ref b0), (.ref em), (.ref b0)])) (fun t k => XS.aloadN X9.here hx rfl (hb hby d3_95) rfl rfl k) ?_
  obtain ⟨T10, X10, e10, st10⟩ := getF X9 hx hZ hown (host := "") (Or.inl (ow hw 28 rfl)) Via.refl e9 F_lastLength_b0 (g := (mkF m 96 #[rv b0, rv sa, iv 0, iv 1] [(.ref b0), (.ref em), (.ref b0)])) rfl rfl (hb hby d3_96)
  refine oS (B := T10.setTop (mkF m 99 #[rv b0, rv sa, iv 0, iv 1] [(.int 0), (.ref em), (.ref b0)])) (fun t k => st10 t k) ?_
  refine oS (B := T10.setTop (mkF m 100 #[rv b0, rv sa, iv 0, iv 1] [(.int 1), (.int 0), (.ref em), (.ref b0)])) (fun t k => XS.iloadN X10.here hx rfl (hb hby d3_99) rfl k) ?_
  refine oS (B := T10.setTop (mkF m 101 #[rv b0, rv sa, iv 0, iv 1] [(.int 1), (.ref em), (.ref b0)])) (fun t k => XS.iadd X10.here hx rfl (hb hby d3_100) rfl k) ?_
  obtain ⟨_, _, ⟨T11, L11, k11, n11⟩, -, X11, ⟨Lc11, hQ11, l11, y11, z11⟩, st11⟩ := Jvm.LawKit.callS X10 hx (y := (⟨"com/example/loomwire/loomwire/transport/MessageBuffer", "chunkCapacity", "(I)I"⟩ : MethodName)) hown (mvT hZ (ow hw 59 rfl)) (mvT hZ (ow hw 60 rfl)) (mvT hZ (ow hw 3 rfl)) (mvT hZ (ow hw 61 rfl)) (by decide) (backOf (W := 2) (rm9_1 l Z a0 hw []   h0 n0 Z0 ) hZ (ow hw 61 rfl) (ow hw 3 rfl) (by decide) (by decide)) (g := (mkF m 101 #[rv b0, rv sa, iv 0, iv 1] [(.int 1), (.ref em), (.ref b0)])) rfl (by rw [hml]; rfl) (argsL := [(.int 1)]) (rest := [(.ref em), (.ref b0)]) (lenOf pd_0 rfl) rfl (by show 2 * 0 + _ ≤ _; exact Nat.le_of_eq rfl) (hb hby d3_101) (fun _ _ => ⟨rfl, e10, (by decide : 0 + 0 ≤ _), (by decide : 0 + 0 ≤ _)⟩)
  dsimp only [Pt.U, Pt.locs, Pt.cells, Pt.slots] at X11 l11 y11 z11 st11 hQ11
  subst l11 y11 z11
  obtain ⟨rfl, N11q, e11⟩ := hQ11
  have N0 := Fr.app N0 N11q
  refine oS (B := T11.setTop (mkF m 104 #[rv b0, rv sa, iv 0, iv 1] [(.int 1), (.ref em), (.ref b0)])) (fun t k => st11 t k) ?_
  have lt_b0 := E_b0.lt
  have lt_sa := V_sa.lt
  have KZ := K0
  obtain ⟨_, _, ⟨T12, L12, k12, n12⟩, -, X12, ⟨Lc12, hQ12, l12, y12, z12⟩, st12⟩ := Jvm.LawKit.callS X11 hx (y := (⟨"java/util/Arrays", "copyOf", "([BI)[B"⟩ : MethodName)) hown (mvT hZ (ow hw 40 rfl)) (mvT hZ (ow hw 41 rfl)) (mvT hZ (ow hw 42 rfl)) (mvT hZ (ow hw 43 rfl)) (by decide) (backOf (W := 1) (rmg_1 l Z a0 hw []  em ke de kd h0 n0 Z0 BB O0) hZ (ow hw 43 rfl) (ow hw 42 rfl) (by decide) (by decide)) (g := (mkF m 104 #[rv b0, rv sa, iv 0, iv 1] [(.int 1), (.ref em), (.ref b0)])) rfl (by rw [hml]; rfl) (argsL := [(.ref em), (.int 1)]) (rest := [(.ref b0)]) (lenOf pd_6 rfl) rfl (by show 2 * 0 + _ ≤ _; exact Nat.le_of_eq rfl) (hb hby d3_104) (fun _ _ => ⟨rfl, e11, (by decide : 0 + 1 ≤ _), (by decide : 0 + 1 ≤ _)⟩)
  dsimp only [Pt.U, Pt.locs, Pt.cells, Pt.slots] at X12 l12 y12 z12 st12 hQ12
  subst l12 y12 z12
  obtain ⟨la, kla, vla, rfl, N12q, K12, g_la, sz'_la, E_la, V_la, hlla⟩ := hQ12
  have N0 := Fr.app N0 N12q
  have E_b0 := E_b0.keep K12
  have F_full_b0 := F_full_b0.keep K12 nin0
  have F_last_b0 := F_last_b0.keep K12 nin0
  have F_lastLength_b0 := F_lastLength_b0.keep K12 nin0
  have F_length_b0 := F_length_b0.keep K12 nin0
  have V_sa := V_sa.keep K12 nin0
  have E_em := E_em.keep K12
  have V_em := V_em.keep K12 nin0
  have V_de := V_de.keep K12 nin0
  have Z0 := Nat.le_trans Z0 K12.1
  have O0 := O0.keep K12 all0
  have K0 := K0.trans K12 all0
  have ne_b0_la : b0 ≠ la := Nat.ne_of_lt (Nat.lt_of_lt_of_le lt_b0 sz'_la)
  have ne_sa_la : sa ≠ la := Nat.ne_of_lt (Nat.lt_of_lt_of_le lt_sa sz'_la)
  have sz_la : h0.size ≤ la := Nat.le_trans KZ.1 sz'_la
  refine oS (B := T12.setTop (mkF m 107 #[rv b0, rv sa, iv 0, iv 1] [(.ref la), (.ref b0)])) (fun t k => st12 t k) ?_
  obtain ⟨T13, h13, X13, e13, W13, st13⟩ := putF X12 hx hZ hown (host := "") (Or.inl (ow hw 12 rfl)) Via.refl rfl F_last_b0 E_b0 (Or.inl (ow hw 13 rfl)) (ow hw 2 rfl) (ty := (.array .byte)) (by decide) rfl rfl (g := (mkF m 107 #[rv b0, rv sa, iv 0, iv 1] [(.ref la), (.ref b0)])) rfl rfl (hb hby d3_107)
  have E_b0 := E_b0.wr W13
  have F_full_b0 := F_full_b0.other W13 (Or.inr (slot_ne (Or.inl (ow hw 27 rfl)) (Or.inl (ow hw 13 rfl)) (by decide) (t := (.object "java/util/List")) (t' := (.array .byte)) (by decide) (by decide)))
  have F_last_b0 := F_last_b0.same W13
  have F_lastLength_b0 := F_lastLength_b0.other W13 (Or.inr (slot_ne (Or.inl (ow hw 29 rfl)) (Or.inl (ow hw 13 rfl)) (by decide) (t := .int) (t' := (.array .byte)) (by decide) (by decide)))
  have F_length_b0 := F_length_b0.other W13 (Or.inr (slot_ne (Or.inl (ow hw 20 rfl)) (Or.inl (ow hw 13 rfl)) (by decide) (t := .int) (t' := (.array .byte)) (by decide) (by decide)))
  have V_sa := V_sa.other W13 (Ne.symm ne_b0_sa)
  have E_em := E_em.wr W13
  have V_em := V_em.other W13 (ne_exa E_em E_b0 (by decide))
  have V_de := V_de.other W13 (O0.ne BB.2.2.2.2.lt g_b0)
  have E_la := E_la.wr W13
  have V_la := V_la.other W13 (Ne.symm ne_b0_la)
  have Z0 := Nat.le_trans Z0 (Keep.of_wr W13).1
  have K0 := K0.wr W13 (Or.inl (List.mem_of_getElem? (i := 0) rfl))
  have N0 := Fr.snoc X13 N0 g_b0
  have O0 := O0.wr W13 g_b0
  refine oS (B := T13.setTop (mkF m 110 #[rv b0, rv sa, iv 0, iv 1] [])) (fun t k => st13 t k) ?_
  refine oS (B := T13.setTop (mkF m 111 #[rv b0, rv sa, iv 0, iv 1] [(.ref sa)])) (fun t k => XS.aloadN X13.here hx rfl (hb hby d3_110) rfl rfl k) ?_
  refine oS (B := T13.setTop (mkF m 112 #[rv b0, rv sa, iv 0, iv 1] [(.int 0), (.ref sa)])) (fun t k => XS.iloadN X13.here hx rfl (hb hby d3_111) rfl k) ?_
  refine oS (B := T13.setTop (mkF m 113 #[rv b0, rv sa, iv 0, iv 1] [(.ref b0), (.int 0), (.ref sa)])) (fun t k => XS.aloadN X13.here hx rfl (hb hby d3_112) rfl rfl k) ?_
  obtain ⟨T14, X14, e14, st14⟩ := getF X13 hx hZ hown (host := "") (Or.inl (ow hw 12 rfl)) Via.refl e13 F_last_b0 (g := (mkF m 113 #[rv b0, rv sa, iv 0, iv 1] [(.ref b0), (.int 0), (.ref sa)])) rfl rfl (hb hby d3_113)
  refine oS (B := T14.setTop (mkF m 116 #[rv b0, rv sa, iv 0, iv 1] [(.ref la), (.int 0), (.ref sa)])) (fun t k => st14 t k) ?_
  refine oS (B := T14.setTop (mkF m 117 #[rv b0, rv sa, iv 0, iv 1] [(.ref b0), (.ref la), (.int 0), (.ref sa)])) (fun t k => XS.aloadN X14.here hx rfl (hb hby d3_116) rfl rfl k) ?_
  obtain ⟨T15, X15, e15, st15⟩ := getF X14 hx hZ hown (host := "") (Or.inl (ow hw 28 rfl)) Via.refl e14 F_lastLength_b0 (g := (mkF m 117 #[rv b0, rv sa, iv 0, iv 1] [(.ref b0), (.ref la), (.int 0), (.ref sa)])) rfl rfl (hb hby d3_117)
  refine oS (B := T15.setTop (mkF m 120 #[rv b0, rv sa, iv 0, iv 1] [(.int 0), (.ref la), (.int 0), (.ref sa)])) (fun t k => st15 t k) ?_
  refine oS (B := T15.setTop (mkF m 121 #[rv b0, rv sa, iv 0, iv 1] [(.int 1), (.int 0), (.ref la), (.int 0), (.ref sa)])) (fun t k => XS.iloadN X15.here hx rfl (hb hby d3_120) rfl k) ?_
  obtain ⟨T16, h16, L16, X16, e16, N16q, K16, VC16, st16⟩ := cpA X15 hx hZ hown (ow hw 76 rfl) (ow hw 75 rfl) (ow hw 73 rfl) (ow hw 74 rfl) e15 V_sa V_la (Or.inl ⟨rfl, rfl⟩) (by decide) (by decide) (by decide) (by decide) (by decide) rfl (by rw [hlla]; decide) N0 g_la (g := (mkF m 121 #[rv b0, rv sa, iv 0, iv 1] [(.int 1), (.int 0), (.ref la), (.int 0), (.ref sa)])) rfl (by rw [hml]; rfl) rfl (hb hby d3_121) (by decide) (W := 0) (by show 2 * 0 + _ ≤ _; exact Nat.le_of_eq rfl) (by decide)
  have E_b0 := E_b0.keep K16
  have F_full_b0 := F_full_b0.keep K16 (ninS ne_b0_la nin0)
  have F_last_b0 := F_last_b0.keep K16 (ninS ne_b0_la nin0)
  have F_lastLength_b0 := F_lastLength_b0.keep K16 (ninS ne_b0_la nin0)
  have F_length_b0 := F_length_b0.keep K16 (ninS ne_b0_la nin0)
  have V_sa := V_sa.keep K16 (ninS ne_sa_la nin0)
  have E_em := E_em.keep K16
  have V_em := V_em.keep K16 (ninS (O0.ne BB.2.2.1.lt g_la) nin0)
  have V_de := V_de.keep K16 (ninS (O0.ne BB.2.2.2.2.lt g_la) nin0)
  have E_la := E_la.keep K16
  have Z0 := Nat.le_trans Z0 K16.1
  have O0 := O0.keep K16 (allS g_la all0)
  have K0 := K0.trans K16 (allS (Or.inr sz_la) all0)
  have N0 := N16q
  have V_la := VC16
  refine oS (B := T16.setTop (mkF m 124 #[rv b0, rv sa, iv 0, iv 1] [])) (fun t k => st16 t k) ?_
  refine oS (B := T16.setTop (mkF m 125 #[rv b0, rv sa, iv 0, iv 1] [(.ref b0)])) (fun t k => XS.aloadN X16.here hx rfl (hb hby d3_124) rfl rfl k) ?_
  refine oS (B := T16.setTop (mkF m 126 #[rv b0, rv sa, iv 0, iv 1] [(.ref b0), (.ref b0)])) (fun t k => XS.dup X16.here hx rfl (hb hby d3_125) rfl rfl k) ?_
  obtain ⟨T17, X17, e17, st17⟩ := getF X16 hx hZ hown (host := "") (Or.inl (ow hw 28 rfl)) Via.refl e16 F_lastLength_b0 (g := (mkF m 126 #[rv b0, rv sa, iv 0, iv 1] [(.ref b0), (.ref b0)])) rfl rfl (hb hby d3_126)
  refine oS (B := T17.setTop (mkF m 129 #[rv b0, rv sa, iv 0, iv 1] [(.int 0), (.ref b0)])) (fun t k => st17 t k) ?_
  refine oS (B := T17.setTop (mkF m 130 #[rv b0, rv sa, iv 0, iv 1] [(.int 1), (.int 0), (.ref b0)])) (fun t k => XS.iloadN X17.here hx rfl (hb hby d3_129) rfl k) ?_
  refine oS (B := T17.setTop (mkF m 131 #[rv b0, rv sa, iv 0, iv 1] [(.int 1), (.ref b0)])) (fun t k => XS.iadd X17.here hx rfl (hb hby d3_130) rfl k) ?_
  obtain ⟨T18, h18, X18, e18, W18, st18⟩ := putF X17 hx hZ hown (host := "") (Or.inl (ow hw 28 rfl)) Via.refl e17 F_lastLength_b0 E_b0 (Or.inl (ow hw 29 rfl)) (ow hw 2 rfl) (ty := .int) (by decide) rfl rfl (g := (mkF m 131 #[rv b0, rv sa, iv 0, iv 1] [(.int 1), (.ref b0)])) rfl rfl (hb hby d3_131)
  have E_b0 := E_b0.wr W18
  have F_full_b0 := F_full_b0.other W18 (Or.inr (slot_ne (Or.inl (ow hw 27 rfl)) (Or.inl (ow hw 29 rfl)) (by decide) (t := (.object "java/util/List")) (t' := .int) (by decide) (by decide)))
  have F_last_b0 := F_last_b0.other W18 (Or.inr (slot_ne (Or.inl (ow hw 13 rfl)) (Or.inl (ow hw 29 rfl)) (by decide) (t := (.array .byte)) (t' := .int) (by decide) (by decide)))
  have F_lastLength_b0 := F_lastLength_b0.same W18
  have F_length_b0 := F_length_b0.other W18 (Or.inr (slot_ne (Or.inl (ow hw 20 rfl)) (Or.inl (ow hw 29 rfl)) (by decide) (t := .int) (t' := .int) (by decide) (by decide)))
  have V_sa := V_sa.other W18 (Ne.symm ne_b0_sa)
  have E_em := E_em.wr W18
  have V_em := V_em.other W18 (ne_exa E_em E_b0 (by decide))
  have V_de := V_de.other W18 (O0.ne BB.2.2.2.2.lt g_b0)
  have E_la := E_la.wr W18
  have V_la := V_la.other W18 (Ne.symm ne_b0_la)
  have Z0 := Nat.le_trans Z0 (Keep.of_wr W18).1
  have K0 := K0.wr W18 (Or.inl (List.mem_of_getElem? (i := 0) rfl))
  have N0 := Fr.snoc X18 N0 g_b0
  have O0 := O0.wr W18 g_b0
  refine oS (B := T18.setTop (mkF m 134 #[rv b0, rv sa, iv 0, iv 1] [])) (fun t k => st18 t k) ?_
  refine oS (B := T18.setTop (mkF m 135 #[rv b0, rv sa, iv 0, iv 1] [(.int 0)])) (fun t k => XS.iloadN X18.here hx rfl (hb hby d3_134) rfl k) ?_
  refine oS (B := T18.setTop (mkF m 136 #[rv b0, rv sa, iv 0, iv 1] [(.int 1), (.int 0)])) (fun t k => XS.iloadN X18.here hx rfl (hb hby d3_135) rfl k) ?_
  refine oS (B := T18.setTop (mkF m 137 #[rv b0, rv sa, iv 0, iv 1] [(.int 1)])) (fun t k => XS.iadd X18.here hx rfl (hb hby d3_136) rfl k) ?_
  refine oS (B := T18.setTop (mkF m 138 #[rv b0, rv sa, iv 1, iv 1] [])) (fun t k => XS.istoreN X18.here hx rfl (hb hby d3_137) rfl (l' := #[rv b0, rv sa, iv 1, iv 1]) rfl k) ?_
  refine oS (B := T18.setTop (mkF m 2 #[rv b0, rv sa, iv 1, iv 1] [])) (fun t k => XS.goto X18.here hx rfl (pc0 := 138) (pc' := 2) rfl (hb hby d3_138) (by decide) (by decide) k) ?_
  refine oS (B := T18.setTop (mkF m 3 #[rv b0, rv sa, iv 1, iv 1] [(.int 1)])) (fun t k => XS.iloadN X18.here hx rfl (hb hby d3_2) rfl k) ?_
  refine oS (B := T18.setTop (mkF m 4 #[rv b0, rv sa, iv 1, iv 1] [(.ref sa), (.int 1)])) (fun t k => XS.aloadN X18.here hx rfl (hb hby d3_3) rfl rfl k) ?_
  have Vo_19 := V_sa
  obtain ⟨cl_19, Ar_19, q_19, S_19, M_19, H_19, G_19⟩ := Vo_19
  refine oS (B := T18.setTop (mkF m 5 #[rv b0, rv sa, iv 1, iv 1] [(.int 1), (.int 1)])) (fun t k => X18.arraylength hx (by rw [e18]; exact Ar_19.1) (State.isArrayOf_alike hZ.alike Ar_19.2.1) (g := (mkF m 4 #[rv b0, rv sa, iv 1, iv 1] [(.ref sa), (.int 1)])) rfl rfl (hb hby d3_4) t (by rw [len_of S_19 M_19]; exact k)) ?_
  refine oS (B := T18.setTop (mkF m 141 #[rv b0, rv sa, iv 1, iv 1] [])) (fun t k => XS.icmpYes X18.here hx rfl (pc0 := 5) (pc' := 141) rfl (hb hby d3_5) rfl (flt (by decide)).2.1 (by decide) (by decide) k) ?_
  refine oS (B := T18.setTop (mkF m 142 #[rv b0, rv sa, iv 1, iv 1] [(.ref b0)])) (fun t k => XS.aloadN X18.here hx rfl (hb hby d3_141) rfl rfl k) ?_
  refine oS (B := T18.setTop (mkF m 143 #[rv b0, rv sa, iv 1, iv 1] [(.ref b0), (.ref b0)])) (fun t k => XS.dup X18.here hx rfl (hb hby d3_142) rfl rfl k) ?_
  obtain ⟨T20, X20, e20, st20⟩ := getF X18 hx hZ hown (host := "") (Or.inl (ow hw 19 rfl)) Via.refl e18 F_length_b0 (g := (mkF m 143 #[rv b0, rv sa, iv 1, iv 1] [(.ref b0), (.ref b0)])) rfl rfl (hb hby d3_143)
  refine oS (B := T20.setTop (mkF m 146 #[rv b0, rv sa, iv 1, iv 1] [(.int 0), (.ref b0)])) (fun t k => st20 t k) ?_
  refine oS (B := T20.setTop (mkF m 147 #[rv b0, rv sa, iv 1, iv 1] [(.ref sa), (.int 0), (.ref b0)])) (fun t k => XS.aloadN X20.here hx rfl (hb hby d3_146) rfl rfl k) ?_
  have Vo_21 := V_sa
  obtain ⟨cl_21, Ar_21, q_21, S_21, M_21, H_21, G_21⟩ := Vo_21
  refine oS (B := T20.setTop (mkF m 148 #[rv b0, rv sa, iv 1, iv 1] [(.int 1), (.int 0), (.ref b0)])) (fun t k => X20.arraylength hx (by rw [e20]; exact Ar_21.1) (State.isArrayOf_alike hZ.alike Ar_21.2.1) (g := (mkF m 147 #[rv b0, rv sa, iv 1, iv 1] [(.ref sa), (.int 0), (.ref b0)])) rfl rfl (hb hby d3_147) t (by rw [len_of S_21 M_21]; exact k)) ?_
  refine oS (B := T20.setTop (mkF m 149 #[rv b0, rv sa, iv 1, iv 1] [(.int 1), (.ref b0)])) (fun t k => XS.iadd X20.here hx rfl (hb hby d3_148) rfl k) ?_
  obtain ⟨T22, h22, X22, e22, W22, st22⟩ := putF X20 hx hZ hown (host := "") (Or.inl (ow hw 19 rfl)) Via.refl e20 F_length_b0 E_b0 (Or.inl (ow hw 20 rfl)) (ow hw 2 rfl) (ty := .int) (by decide) rfl rfl (g := (mkF m 149 #[rv b0, rv sa, iv 1, iv 1] [(.int 1), (.ref b0)])) rfl rfl (hb hby d3_149)
  have E_b0 := E_b0.wr W22
  have F_full_b0 := F_full_b0.other W22 (Or.inr (slot_ne (Or.inl (ow hw 27 rfl)) (Or.inl (ow hw 20 rfl)) (by decide) (t := (.object "java/util/List")) (t' := .int) (by decide) (by decide)))
  have F_last_b0 := F_last_b0.other W22 (Or.inr (slot_ne (Or.inl (ow hw 13 rfl)) (Or.inl (ow hw 20 rfl)) (by decide) (t := (.array .byte)) (t' := .int) (by decide) (by decide)))
  have F_lastLength_b0 := F_lastLength_b0.other W22 (Or.inr (slot_ne (Or.inl (ow hw 29 rfl)) (Or.inl (ow hw 20 rfl)) (by decide) (t := .int) (t' := .int) (by decide) (by decide)))
  have F_length_b0 := F_length_b0.same W22
  have V_sa := V_sa.other W22 (Ne.symm ne_b0_sa)
  have E_em := E_em.wr W22
  have V_em := V_em.other W22 (ne_exa E_em E_b0 (by decide))
  have V_de := V_de.other W22 (O0.ne BB.2.2.2.2.lt g_b0)
  have E_la := E_la.wr W22
  have V_la := V_la.other W22 (Ne.symm ne_b0_la)
  have Z0 := Nat.le_trans Z0 (Keep.of_wr W22).1
  have K0 := K0.wr W22 (Or.inl (List.mem_of_getElem? (i := 0) rfl))
  have N0 := Fr.snoc X22 N0 g_b0
  have O0 := O0.wr W22 g_b0
  refine oS (B := T22.setTop (mkF m 152 #[rv b0, rv sa, iv 1, iv 1] [])) (fun t k => st22 t k) ?_
  exact own_retV X22 hx hlk Bd.returns (hb hby d3_152) (by decide) (by decide) (by rw [e22]; exact ⟨_, _, _, rfl, N0, K0, F_full_b0, F_last_b0, F_lastLength_b0, F_length_b0, g_la, sz_la, E_la, V_la, fun i hi => (own_take _ _ 1 (.int 0) _ _ rfl i hi).trans (by show vs.getD (0 + i) _ = _; rw [Nat.zero_add])⟩)
theorem ef_rms_2 (m : MethodId) (x0 : Addr) (x1 : Addr) : entryFrame m #[(.ref x0), (.ref x1)] 4 = mkF m 0 #[rv x0, rv x1, .unset, .unset] [] := by first | (simp [entryFrame, mkF, argsToLocals, Value.category]; done) | rfl
def QQ_rms_2 (Z : State) (b0 : Addr) (sa : Addr) (em : Addr) (ke : ClassId) (de : Addr) (kd : ClassId) (ks : ClassId) (vs : List Value) (h0 : Heap) (n0 : Nat) (v : Option Value) (h : Heap) (L : List Loc) : Prop := ∃ (la : Addr) (kl : ClassId) (vl : List Value), v = none ∧ Fr n0 L ∧ Keep h0 h [b0] ∧ Fld Z h b0 "com/example/loomwire/loomwire/transport/MessageBuffer" "full" "Ljava/util/List;" .null ∧ Fld Z h b0 "com/example/loomwire/loomwire/transport/MessageBuffer" "last" "[B" (.ref la) ∧ Fld Z h b0 "com/example/loomwire/loomwire/transport/MessageBuffer" "lastLength" "I" (.int 2) ∧ Fld Z h b0 "com/example/loomwire/loomwire/transport/MessageBuffer" "length" "I" (.int 2) ∧ n0 ≤ la ∧ h0.size ≤ la ∧ Exa Z h la "[B" ∧ Arv Z h la kl .byte (2 : Int32) vl (.int 0) ∧ ∀ i, i < 2 → vl.getD i (.int 0) = vs.getD i (.int 0)
set_option maxRecDepth 65536 in
set_option maxHeartbeats 40000000 in
theorem rms_2 (l : Launch) (Z : State) (a0 : Array Value) (hw : ∀ d ∈ tables_1, d.before a0 Z = true) (ws : List Jvm.Cond) (b0 : Addr) (sa : Addr) (em : Addr) (ke : ClassId) (de : Addr) (kd : ClassId) (ks : ClassId) (vs : List Value) (h0 : Heap) (n0 : Nat) (Z0 : n0 ≤ h0.size) (E_b0 : Exa Z h0 b0 "com/example/loomwire/loomwire/transport/MessageBuffer") (g_b0 : n0 ≤ b0) (F_full_b0 : Fld Z h0 b0 "com/example/loomwire/loomwire/transport/MessageBuffer" "full" "Ljava/util/List;" .null) (F_last_b0 : Fld Z h0 b0 "com/example/loomwire/loomwire/transport/MessageBuffer" "last" "[B" (.ref em)) (F_lastLength_b0 : Fld Z h0 b0 "com/example/loomwire/loomwire/transport/MessageBuffer" "lastLength" "I" (.int 0)) (F_length_b0 : Fld Z h0 b0 "com/example/loomwire/loomwire/transport/MessageBuffer" "length" "I" (.int 0)) (BB : own_Base Z em ke de kd) (O0 : Old Z n0 h0) (ne_b0_sa : b0 ≠ sa) (V_sa : Arv Z h0 sa ks .byte (2 : Int32) vs (.int 0)) :
    MetFree l (⟨"com/example/loomwire/loomwire/transport/MessageBuffer", "append", "([B)V"⟩ : MethodName) (head1 (Jvm.Cond.code (⟨"com/example/loomwire/loomwire/transport/MessageBuffer", "append", "([B)V"⟩ : MethodName) prog_102_method_4_code 4 none :: ws) ({ frames := 3, cells := 1, slots := 4, locals := 80 } : Room)) (fun a U => a = #[(.ref b0), (.ref sa)] ∧ Z.Warmed39 U.vm ∧ U.heap = h0) (fun _ _ _ _ _ => True) (fun _ U o U' => ∃ v L, o = .returned v ∧ (QQ_rms_2 Z b0 sa em ke de kd ks vs h0 n0) v U'.heap L ∧ FrameEnd U o U' L ({ frames := 3, cells := 1, slots := 4, locals := 80 } : Room).cells ({ frames := 3, cells := 1, slots := 4, locals := 80 } : Room).slots) := by
  refine MetFree.of_bodySF (plainFor_of_name pn_com_example_loomwire_loomwire_transport_MessageBuffer) hisR ?_
  intro p e s m args below meth c s₁ Bd hml0 hP hK
  obtain ⟨rfl, hZ, hh⟩ := hP
  have hx := Bd.exec
  have hby := Bd.bytes
  have hlk : meth.locks = false := BodyLoose.notSynchronized Bd
  have hml : c.maxLocals = 4 := hml0
  have hown : s.vm.findClass "com/example/loomwire/loomwire/transport/MessageBuffer" = some m.cls := findClass_of_methodNamed Bd.named
  have hnm := (name_of_methodNamed Bd.named Bd.method).1
  have X0 : Stand p l e ({ frames := 3, cells := 1, slots := 4, locals := 80 } : Room) s m #[(.ref b0), (.ref sa)] below meth c s₁ [] 0 0 := Stand.of_body Bd
  have e0 : s₁.heap = h0 := by rw [← hh, Bd.state]; rfl
  have N0 := Fr.nil n0
  show own_G p.tables e below s (QQ_rms_2 Z b0 sa em ke de kd ks vs h0 n0) ({ frames := 3, cells := 1, slots := 4, locals := 80 } : Room).cells ({ frames := 3, cells := 1, slots := 4, locals := 80 } : Room).slots (s₁.setTop (entryFrame m #[(.ref b0), (.ref sa)] 4))
  refine oS (B := s₁.setTop (mkF m 0 #[rv b0, rv sa, .unset, .unset] [])) (fun t k => castTop (ef_rms_2 m b0 sa) k) ?_
  have V_em := BB.2.2.1.ext O0.2
  have E_em := BB.2.1.ext O0.2
  have V_de := BB.2.2.2.2.ext O0.2
  have K0 := Keep.refl h0 [b0]
  refine oS (B := s₁.setTop (mkF m 1 #[rv b0, rv sa, .unset, .unset] [(.int 0)])) (fun t k => XS.iconst X0.here hx rfl (hb hby d3_0) k) ?_
  refine oS (B := s₁.setTop (mkF m 2 #[rv b0, rv sa, iv 0, .unset] [])) (fun t k => XS.istoreN X0.here hx rfl (hb hby d3_1) rfl (l' := #[rv b0, rv sa, iv 0, .unset]) rfl k) ?_
  refine oS (B := s₁.setTop (mkF m 3 #[rv b0, rv sa, iv 0, .unset] [(.int 0)])) (fun t k => XS.iloadN X0.here hx rfl (hb hby d3_2) rfl k) ?_
  refine oS (B := s₁.setTop (mkF m 4 #[rv b0, rv sa, iv 0, .unset] [(.ref sa), (.int 0)])) (fun t k => XS.aloadN X0.here hx rfl (hb hby d3_3) rfl rfl k) ?_
  have Vo_1 := V_sa
  obtain ⟨cl_1, Ar_1, q_1, S_1, M_1, H_1, G_1⟩ := Vo_1
  refine oS (B := s₁.setTop (mkF m 5 #[rv b0, rv sa, iv 0, .unset] [(.int 2), (.int 0)])) (fun t k => X0.arraylength hx (by rw [e0]; exact Ar_1.1) (State.isArrayOf_alike hZ.alike Ar_1.2.1) (g := (mkF m 4 #[rv b0, rv sa, iv 0, .unset] [(.ref sa), (.int 0)])) rfl rfl (hb hby d3_4) t (by rw [len_of S_1 M_1]; exact k)) ?_
  refine oS (B := s₁.setTop (mkF m 8 #[rv b0, rv sa, iv 0, .unset] [])) (fun t k => XS.icmpNo X0.here hx rfl (hb hby d3_5) rfl (tlt (by decide)).2.1 k) ?_
  refine oS (B := s₁.setTop (mkF m 9 #[rv b0, rv sa, iv 0, .unset] [(.ref b0)])) (fun t k => XS.aloadN X0.here hx rfl (hb hby d3_8) rfl rfl k) ?_
  obtain ⟨T2, X2, e2, st2⟩ := getF X0 hx hZ hown (host := "") (Or.inl (ow hw 28 rfl)) Via.refl e0 F_lastLength_b0 (g := (mkF m 9 #[rv b0, rv sa, iv 0, .unset] [(.ref b0)])) rfl rfl (hb hby d3_9)
  refine oS (B := T2.setTop (mkF m 12 #[rv b0, rv sa, iv 0, .unset] [(.int 0)])) (fun t k => st2 t k) ?_
  refine oS (B := T2.setTop (mkF m 14 #[rv b0, rv sa, iv 0, .unset] [(.int 65536), (.int 0)])) (fun t k => X2.ldcInt hx hown (mvT hZ (ow hw 54 rfl)) (g := (mkF m 12 #[rv b0, rv sa, iv 0, .unset] [(.int 0)])) rfl (hb hby d3_12) t k) ?_
  refine oS (B := T2.setTop (mkF m 61 #[rv b0, rv sa, iv 0, .unset] [])) (fun t k => XS.icmpYes X2.here hx rfl (pc0 := 14) (pc' := 61) rfl (hb hby d3_14) rfl (feq (by decide)).2 (by decide) (by decide) k) ?_
  refine oS (B := T2.setTop (mkF m 62 #[rv b0, rv sa, iv 0, .unset] [(.ref sa)])) (fun t k => XS.aloadN X2.here hx rfl (hb hby d3_61) rfl rfl k) ?_
  have Vo_3 := V_sa
  obtain ⟨cl_3, Ar_3, q_3, S_3, M_3, H_3, G_3⟩ := Vo_3
  refine oS (B := T2.setTop (mkF m 63 #[rv b0, rv sa, iv 0, .unset] [(.int 2)])) (fun t k => X2.arraylength hx (by rw [e2]; exact Ar_3.1) (State.isArrayOf_alike hZ.alike Ar_3.2.1) (g := (mkF m 62 #[rv b0, rv sa, iv 0, .unset] [(.ref sa)])) rfl rfl (hb hby d3_62) t (by rw [len_of S_3 M_3]; exact k)) ?_
  refine oS (B := T2.setTop (mkF m 64 #[rv b0, rv sa, iv 0, .unset] [(.int 0), (.int 2)])) (fun t k => XS.iloadN X2.here hx rfl (hb hby d3_63) rfl k) ?_
  refine oS (B := T2.setTop (mkF m 65 #[rv b0, rv sa, iv 0, .unset] [(.int 2)])) (fun t k => XS.isub X2.here hx rfl (hb hby d3_64) rfl k) ?_
  refine oS (B := T2.setTop (mkF m 67 #[rv b0, rv sa, iv 0, .unset] [(.int 65536), (.int 2)])) (fun t k => X2.ldcInt hx hown (mvT hZ (ow hw 54 rfl)) (g := (mkF m 65 #[rv b0, rv sa, iv 0, .unset] [(.int 2)])) rfl (hb hby d3_65) t k) ?_
  refine oS (B := T2.setTop (mkF m 68 #[rv b0, rv sa, iv 0, .unset] [(.ref b0), (.int 65536), (.int 2)])) (fun t k => XS.aloadN X2.here hx rfl (hb hby d3_67) rfl rfl k) ?_
  obtain ⟨T4, X4, e4, st4⟩ := getF X2 hx hZ hown (host := "") (Or.inl (ow hw 28 rfl)) Via.refl e2 F_lastLength_b0 (g := (mkF m 68 #[rv b0, rv sa, iv 0, .unset] [(.ref b0), (.int 65536), (.int 2)])) rfl rfl (hb hby d3_68)
  refine oS (B := T4.setTop (mkF m 71 #[rv b0, rv sa, iv 0, .unset] [(.int 0), (.int 65536), (.int 2)])) (fun t k => st4 t k) ?_
  refine oS (B := T4.setTop (mkF m 72 #[rv b0, rv sa, iv 0, .unset] [(.int 65536), (.int 2)])) (fun t k => XS.isub X4.here hx rfl (hb hby d3_71) rfl k) ?_
  obtain ⟨_, _, ⟨T5, L5, k5, n5⟩, -, X5, ⟨Lc5, hQ5, l5, y5, z5⟩, st5⟩ := Jvm.LawKit.callS X4 hx (y := (⟨"java/lang/Math", "min", "(II)I"⟩ : MethodName)) hown (mvT hZ (ow hw 55 rfl)) (mvT hZ (ow hw 56 rfl)) (mvT hZ (ow hw 57 rfl)) (mvT hZ (ow hw 58 rfl)) (by decide) (backOf (W := 0) (rm8 l Z a0 hw [] (2 : Int32) (65536 : Int32)  h0 n0 Z0 ) hZ (ow hw 58 rfl) (ow hw 57 rfl) (by decide) (by decide)) (g := (mkF m 72 #[rv b0, rv sa, iv 0, .unset] [(.int 65536), (.int 2)])) rfl (by rw [hml]; rfl) (argsL := [(.int 2), (.int 65536)]) (rest := []) (lenOf pd_1 rfl) rfl (by show 2 * 0 + _ ≤ _; exact Nat.le_of_eq rfl) (hb hby d3_72) (fun _ _ => ⟨rfl, e4, (by decide : 0 + 0 ≤ _), (by decide : 0 + 0 ≤ _)⟩)
  dsimp only [Pt.U, Pt.locs, Pt.cells, Pt.slots] at X5 l5 y5 z5 st5 hQ5
  subst l5 y5 z5
  obtain ⟨rfl, N5q, e5⟩ := hQ5
  have N0 := Fr.app N0 N5q
  refine oS (B := T5.setTop (mkF m 75 #[rv b0, rv sa, iv 0, .unset] [(.int (own_min (2 : Int32) (65536 : Int32)))])) (fun t k => st5 t k) ?_
  have hlit5 : (own_min (2 : Int32) (65536 : Int32)) = (2 : Int32) := by decide
  rw [hlit5]
  refine oS (B := T5.setTop (mkF m 76 #[rv b0, rv sa, iv 0, iv 2] [])) (fun t k => XS.istoreN X5.here hx rfl (hb hby d3_75) rfl (l' := #[rv b0, rv sa, iv 0, iv 2]) rfl k) ?_
  refine oS (B := T5.setTop (mkF m 77 #[rv b0, rv sa, iv 0, iv 2] [(.ref b0)])) (fun t k => XS.aloadN X5.here hx rfl (hb hby d3_76) rfl rfl k) ?_
  obtain ⟨T6, X6, e6, st6⟩ := getF X5 hx hZ hown (host := "") (Or.inl (ow hw 28 rfl)) Via.refl e5 F_lastLength_b0 (g := (mkF m 77 #[rv b0, rv sa, iv 0, iv 2] [(.ref b0)])) rfl rfl (hb hby d3_77)
  refine oS (B := T6.setTop (mkF m 80 #[rv b0, rv sa, iv 0, iv 2] [(.int 0)])) (fun t k => st6 t k) ?_
  refine oS (B := T6.setTop (mkF m 81 #[rv b0, rv sa, iv 0, iv 2] [(.int 2), (.int 0)])) (fun t k => XS.iloadN X6.here hx rfl (hb hby d3_80) rfl k) ?_
  refine oS (B := T6.setTop (mkF m 82 #[rv b0, rv sa, iv 0, iv 2] [(.int 2)])) (fun t k => XS.iadd X6.here hx rfl (hb hby d3_81) rfl k) ?_
  refine oS (B := T6.setTop (mkF m 83 #[rv b0, rv sa, iv 0, iv 2] [(.ref b0), (.int 2)])) (fun t k => XS.aloadN X6.here hx rfl (hb hby d3_82) rfl rfl k) ?_
  obtain ⟨T7, X7, e7, st7⟩ := getF X6 hx hZ hown (host := "") (Or.inl (ow hw 12 rfl)) Via.refl e6 F_last_b0 (g := (mkF m 83 #[rv b0, rv sa, iv 0, iv 2] [(.ref b0), (.int 2)])) rfl rfl (hb hby d3_83)
  refine oS (B := T7.setTop (mkF m 86 #[rv b0, rv sa, iv 0, iv 2] [(.ref em), (.int 2)])) (fun t k => st7 t k) ?_
  have Vo_8 := V_em
  obtain ⟨cl_8, Ar_8, q_8, S_8, M_8, H_8, G_8⟩ := Vo_8
  refine oS (B := T7.setTop (mkF m 87 #[rv b0, rv sa, iv 0, iv 2] [(.int 0), (.int 2)])) (fun t k => X7.arraylength hx (by rw [e7]; exact Ar_8.1) (State.isArrayOf_alike hZ.alike Ar_8.2.1) (g := (mkF m 86 #[rv b0, rv sa, iv 0, iv 2] [(.ref em), (.int 2)])) rfl rfl (hb hby d3_86) t (by rw [len_of S_8 M_8]; exact k)) ?_
  refine oS (B := T7.setTop (mkF m 90 #[rv b0, rv sa, iv 0, iv 2] [])) (fun t k => XS.icmpNo X7.here hx rfl (hb hby d3_87) rfl (tlt (by decide)).2.2.2 k) ?_
  refine oS (B := T7.setTop (mkF m 91 #[rv b0, rv sa, iv 0, iv 2] [(.ref b0)])) (fun t k => XS.aloadN X7.here hx rfl (hb hby d3_90) rfl rfl k) ?_
  refine oS (B := T7.setTop (mkF m 92 #[rv b0, rv sa, iv 0, iv 2] [(.ref b0), (.ref b0)])) (fun t k => XS.aloadN X7.here hx rfl (hb hby d3_91) rfl rfl k) ?_
  obtain ⟨T9, X9, e9, st9⟩ := getF X7 hx hZ hown (host := "") (Or.inl (ow hw 12 rfl)) Via.refl e7 F_last_b0 (g := (mkF m 92 #[rv b0, rv sa, iv 0, iv 2] [(.ref b0), (.ref b0)])) rfl rfl (hb hby d3_92)
  refine oS (B := T9.setTop (mkF m 95 #[rv b0, rv sa, iv 0, iv 2] [(.ref em), (.ref b0)])) (fun t k => st9 t k) ?_
  refine oS (B := T9.setTop (mkF m 96 #[rv b0, rv sa, iv 0, iv 2] [(.ref b0), (.ref em), (.ref b0)])) (fun t k => XS.aloadN X9.here hx rfl (hb hby d3_95) rfl rfl k) ?_
  obtain ⟨T10, X10, e10, st10⟩ := getF X9 hx hZ hown (host := "") (Or.inl (ow hw 28 rfl)) Via.refl e9 F_lastLength_b0 (g := (mkF m 96 #[rv b0, rv sa, iv 0, iv 2] [(.ref b0), (.ref em), (.ref b0)])) rfl rfl (hb hby d3_96)
  refine oS (B := T10.setTop (mkF m 99 #[rv b0, rv sa, iv 0, iv 2] [(.int 0), (.ref em), (.ref b0)])) (fun t k => st10 t k) ?_
  refine oS (B := T10.setTop (mkF m 100 #[rv b0, rv sa, iv 0, iv 2] [(.int 2), (.int 0), (.ref em), (.ref b0)])) (fun t k => XS.iloadN X10.here hx rfl (hb hby d3_99) rfl k) ?_
  refine oS (B := T10.setTop (mkF m 101 #[rv b0, rv sa, iv 0, iv 2] [(.int 2), (.ref em), (.ref b0)])) (fun t k => XS.iadd X10.here hx rfl (hb hby d3_100) rfl k) ?_
  obtain ⟨_, _, ⟨T11, L11, k11, n11⟩, -, X11, ⟨Lc11, hQ11, l11, y11, z11⟩, st11⟩ := Jvm.LawKit.callS X10 hx (y := (⟨"com/example/loomwire/loomwire/transport/MessageBuffer", "chunkCapacity", "(I)I"⟩ : MethodName)) hown (mvT hZ (ow hw 59 rfl)) (mvT hZ (ow hw 60 rfl)) (mvT hZ (ow hw 3 rfl)) (mvT hZ (ow hw 61 rfl)) (by decide) (backOf (W := 2) (rm9_2 l Z a0 hw []   h0 n0 Z0 ) hZ (ow hw 61 rfl) (ow hw 3 rfl) (by decide) (by decide)) (g := (mkF m 101 #[rv b0, rv sa, iv 0, iv 2] [(.int 2), (.ref em), (.ref b0)])) rfl (by rw [hml]; rfl) (argsL := [(.int 2)]) (rest := [(.ref em), (.ref b0)]) (lenOf pd_0 rfl) rfl (by show 2 * 0 + _ ≤ _; exact Nat.le_of_eq rfl) (hb hby d3_101) (fun _ _ => ⟨rfl, e10, (by decide : 0 + 0 ≤ _), (by decide : 0 + 0 ≤ _)⟩)
  dsimp only [Pt.U, Pt.locs, Pt.cells, Pt.slots] at X11 l11 y11 z11 st11 hQ11
  subst l11 y11 z11
  obtain ⟨rfl, N11q, e11⟩ := hQ11
  have N0 := Fr.app N0 N11q
  refine oS (B := T11.setTop (mkF m 104 #[rv b0, rv sa, iv 0, iv 2] [(.int 2), (.ref em), (.ref b0)])) (fun t k => st11 t k) ?_
  have lt_b0 := E_b0.lt
  have lt_sa := V_sa.lt
  have KZ := K0
  obtain ⟨_, _, ⟨T12, L12, k12, n12⟩, -, X12, ⟨Lc12, hQ12, l12, y12, z12⟩, st12⟩ := Jvm.LawKit.callS X11 hx (y := (⟨"java/util/Arrays", "copyOf", "([BI)[B"⟩ : MethodName)) hown (mvT hZ (ow hw 40 rfl)) (mvT hZ (ow hw 41 rfl)) (mvT hZ (ow hw 42 rfl)) (mvT hZ (ow hw 43 rfl)) (by decide) (backOf (W := 1) (rmg_2 l Z a0 hw []  em ke de kd h0 n0 Z0 BB O0) hZ (ow hw 43 rfl) (ow hw 42 rfl) (by decide) (by decide)) (g := (mkF m 104 #[rv b0, rv sa, iv 0, iv 2] [(.int 2), (.ref em), (.ref b0)])) rfl (by rw [hml]; rfl) (argsL := [(.ref em), (.int 2)]) (rest := [(.ref b0)]) (lenOf pd_6 rfl) rfl (by show 2 * 0 + _ ≤ _; exact Nat.le_of_eq rfl) (hb hby d3_104) (fun _ _ => ⟨rfl, e11, (by decide : 0 + 1 ≤ _), (by decide : 0 + 2 ≤ _)⟩)
  dsimp only [Pt.U, Pt.locs, Pt.cells, Pt.slots] at X12 l12 y12 z12 st12 hQ12
  subst l12 y12 z12
  obtain ⟨la, kla, vla, rfl, N12q, K12, g_la, sz'_la, E_la, V_la, hlla⟩ := hQ12
  have N0 := Fr.app N0 N12q
  have E_b0 := E_b0.keep K12
  have F_full_b0 := F_full_b0.keep K12 nin0
  have F_last_b0 := F_last_b0.keep K12 nin0
  have F_lastLength_b0 := F_lastLength_b0.keep K12 nin0
  have F_length_b0 := F_length_b0.keep K12 nin0
  have V_sa := V_sa.keep K12 nin0
  have E_em := E_em.keep K12
  have V_em := V_em.keep K12 nin0
  have V_de := V_de.keep K12 nin0
  have Z0 := Nat.le_trans Z0 K12.1
  have O0 := O0.keep K12 all0
  have K0 := K0.trans K12 all0
  have ne_b0_la : b0 ≠ la := Nat.ne_of_lt (Nat.lt_of_lt_of_le lt_b0 sz'_la)
  have ne_sa_la : sa ≠ la := Nat.ne_of_lt (Nat.lt_of_lt_of_le lt_sa sz'_la)
  have sz_la : h0.size ≤ la := Nat.le_trans KZ.1 sz'_la
  refine oS (B := T12.setTop (mkF m 107 #[rv b0, rv sa, iv 0, iv 2] [(.ref la), (.ref b0)])) (fun t k => st12 t k) ?_
  obtain ⟨T13, h13, X13, e13, W13, st13⟩ := putF X12 hx hZ hown (host := "") (Or.inl (ow hw 12 rfl)) Via.refl rfl F_last_b0 E_b0 (Or.inl (ow hw 13 rfl)) (ow hw 2 rfl) (ty := (.array .byte)) (by decide) rfl rfl (g := (mkF m 107 #[rv b0, rv sa, iv 0, iv 2] [(.ref la), (.ref b0)])) rfl rfl (hb hby d3_107)
  have E_b0 := E_b0.wr W13
  have F_full_b0 := F_full_b0.other W13 (Or.inr (slot_ne (Or.inl (ow hw 27 rfl)) (Or.inl (ow hw 13 rfl)) (by decide) (t := (.object "java/util/List")) (t' := (.array .byte)) (by decide) (by decide)))
  have F_last_b0 := F_last_b0.same W13
  have F_lastLength_b0 := F_lastLength_b0.other W13 (Or.inr (slot_ne (Or.inl (ow hw 29 rfl)) (Or.inl (ow hw 13 rfl)) (by decide) (t := .int) (t' := (.array .byte)) (by decide) (by decide)))
  have F_length_b0 := F_length_b0.other W13 (Or.inr (slot_ne (Or.inl (ow hw 20 rfl)) (Or.inl (ow hw 13 rfl)) (by decide) (t := .int) (t' := (.array .byte)) (by decide) (by decide)))
  have V_sa := V_sa.other W13 (Ne.symm ne_b0_sa)
  have E_em := E_em.wr W13
  have V_em := V_em.other W13 (ne_exa E_em E_b0 (by decide))
  have V_de := V_de.other W13 (O0.ne BB.2.2.2.2.lt g_b0)
  have E_la := E_la.wr W13
  have V_la := V_la.other W13 (Ne.symm ne_b0_la)
  have Z0 := Nat.le_trans Z0 (Keep.of_wr W13).1
  have K0 := K0.wr W13 (Or.inl (List.mem_of_getElem? (i := 0) rfl))
  have N0 := Fr.snoc X13 N0 g_b0
  have O0 := O0.wr W13 g_b0
  refine oS (B := T13.setTop (mkF m 110 #[rv b0, rv sa, iv 0, iv 2] [])) (fun t k => st13 t k) ?_
  refine oS (B := T13.setTop (mkF m 111 #[rv b0, rv sa, iv 0, iv 2] [(.ref sa)])) (fun t k => XS.aloadN X13.here hx rfl (hb hby d3_110) rfl rfl k) ?_
  refine oS (B := T13.setTop (mkF m 112 #[rv b0, rv sa, iv 0, iv 2] [(.int 0), (.ref sa)])) (fun t k => XS.iloadN X13.here hx rfl (hb hby d3_111) rfl k) ?_
  refine oS (B := T13.setTop (mkF m 113 #[rv b0, rv sa, iv 0, iv 2] [(.ref b0), (.int 0), (.ref sa)])) (fun t k => XS.aloadN X13.here hx rfl (hb hby d3_112) rfl rfl k) ?_
  obtain ⟨T14, X14, e14, st14⟩ := getF X13 hx hZ hown (host := "") (Or.inl (ow hw 12 rfl)) Via.refl e13 F_last_b0 (g := (mkF m 113 #[rv b0, rv sa, iv 0, iv 2] [(.ref b0), (.int 0), (.ref sa)])) rfl rfl (hb hby d3_113)
  refine oS (B := T14.setTop (mkF m 116 #[rv b0, rv sa, iv 0, iv 2] [(.ref la), (.int 0), (.ref sa)])) (fun t k => st14 t k) ?_
  refine oS (B := T14.setTop (mkF m 117 #[rv b0, rv sa, iv 0, iv 2] [(.ref b0), (.ref la), (.int 0), (.ref sa)])) (fun t k => XS.aloadN X14.here hx rfl (hb hby d3_116) rfl rfl k) ?_
  obtain ⟨T15, X15, e15, st15⟩ := getF X14 hx hZ hown (host := "") (Or.inl (ow hw 28 rfl)) Via.refl e14 F_lastLength_b0 (g := (mkF m 117 #[rv b0, rv sa, iv 0, iv 2] [(.ref b0), (.ref la), (.int 0), (.ref sa)])) rfl rfl (hb hby d3_117)
  refine oS (B := T15.setTop (mkF m 120 #[rv b0, rv sa, iv 0, iv 2] [(.int 0), (.ref la), (.int 0), (.ref sa)])) (fun t k => st15 t k) ?_
  refine oS (B := T15.setTop (mkF m 121 #[rv b0, rv sa, iv 0, iv 2] [(.int 2), (.int 0), (.ref la), (.int 0), (.ref sa)])) (fun t k => XS.iloadN X15.here hx rfl (hb hby d3_120) rfl k) ?_
  obtain ⟨T16, h16, L16, X16, e16, N16q, K16, VC16, st16⟩ := cpA X15 hx hZ hown (ow hw 76 rfl) (ow hw 75 rfl) (ow hw 73 rfl) (ow hw 74 rfl) e15 V_sa V_la (Or.inl ⟨rfl, rfl⟩) (by decide) (by decide) (by decide) (by decide) (by decide) rfl (by rw [hlla]; decide) N0 g_la (g := (mkF m 121 #[rv b0, rv sa, iv 0, iv 2] [(.int 2), (.int 0), (.ref la), (.int 0), (.ref sa)])) rfl (by rw [hml]; rfl) rfl (hb hby d3_121) (by decide) (W := 0) (by show 2 * 0 + _ ≤ _; exact Nat.le_of_eq rfl) (by decide)
  have E_b0 := E_b0.keep K16
  have F_full_b0 := F_full_b0.keep K16 (ninS ne_b0_la nin0)
  have F_last_b0 := F_last_b0.keep K16 (ninS ne_b0_la nin0)
  have F_lastLength_b0 := F_lastLength_b0.keep K16 (ninS ne_b0_la nin0)
  have F_length_b0 := F_length_b0.keep K16 (ninS ne_b0_la nin0)
  have V_sa := V_sa.keep K16 (ninS ne_sa_la nin0)
  have E_em := E_em.keep K16
  have V_em := V_em.keep K16 (ninS (O0.ne BB.2.2.1.lt g_la) nin0)
  have V_de := V_de.keep K16 (ninS (O0.ne BB.2.2.2.2.lt g_la) nin0)
  have E_la := E_la.keep K16
  have Z0 := Nat.le_trans Z0 K16.1
  have O0 := O0.keep K16 (allS g_la all0)
  have K0 := K0.trans K16 (allS (Or.inr sz_la) all0)
  have N0 := N16q
  have V_la := VC16
  refine oS (B := T16.setTop (mkF m 124 #[rv b0, rv sa, iv 0, iv 2] [])) (fun t k => st16 t k) ?_
  refine oS (B := T16.setTop (mkF m 125 #[rv b0, rv sa, iv 0, iv 2] [(.ref b0)])) (fun t k => XS.aloadN X16.here hx rfl (hb hby d3_124) rfl rfl k) ?_
  refine oS (B := T16.setTop (mkF m 126 #[rv b0, rv sa, iv 0, iv 2] [(.ref b0), (.ref b0)])) (fun t k => XS.dup X16.here hx rfl (hb hby d3_125) rfl rfl k) ?_
  obtain ⟨T17, X17, e17, st17⟩ := getF X16 hx hZ hown (host := "") (Or.inl (ow hw 28 rfl)) Via.refl e16 F_lastLength_b0 (g := (mkF m 126 #[rv b0, rv sa, iv 0, iv 2] [(.ref b0), (.ref b0)])) rfl rfl (hb hby d3_126)
  refine oS (B := T17.setTop (mkF m 129 #[rv b0, rv sa, iv 0, iv 2] [(.int 0), (.ref b0)])) (fun t k => st17 t k) ?_
  refine oS (B := T17.setTop (mkF m 130 #[rv b0, rv sa, iv 0, iv 2] [(.int 2), (.int 0), (.ref b0)])) (fun t k => XS.iloadN X17.here hx rfl (hb hby d3_129) rfl k) ?_
  refine oS (B := T17.setTop (mkF m 131 #[rv b0, rv sa, iv 0, iv 2] [(.int 2), (.ref b0)])) (fun t k => XS.iadd X17.here hx rfl (hb hby d3_130) rfl k) ?_
  obtain ⟨T18, h18, X18, e18, W18, st18⟩ := putF X17 hx hZ hown (host := "") (Or.inl (ow hw 28 rfl)) Via.refl e17 F_lastLength_b0 E_b0 (Or.inl (ow hw 29 rfl)) (ow hw 2 rfl) (ty := .int) (by decide) rfl rfl (g := (mkF m 131 #[rv b0, rv sa, iv 0, iv 2] [(.int 2), (.ref b0)])) rfl rfl (hb hby d3_131)
  have E_b0 := E_b0.wr W18
  have F_full_b0 := F_full_b0.other W18 (Or.inr (slot_ne (Or.inl (ow hw 27 rfl)) (Or.inl (ow hw 29 rfl)) (by decide) (t := (.object "java/util/List")) (t' := .int) (by decide) (by decide)))
  have F_last_b0 := F_last_b0.other W18 (Or.inr (slot_ne (Or.inl (ow hw 13 rfl)) (Or.inl (ow hw 29 rfl)) (by decide) (t := (.array .byte)) (t' := .int) (by decide) (by decide)))
  have F_lastLength_b0 := F_lastLength_b0.same W18
  have F_length_b0 := F_length_b0.other W18 (Or.inr (slot_ne (Or.inl (ow hw 20 rfl)) (Or.inl (ow hw 29 rfl)) (by decide) (t := .int) (t' := .int) (by decide) (by decide)))
  have V_sa := V_sa.other W18 (Ne.symm ne_b0_sa)
  have E_em := E_em.wr W18
  have V_em := V_em.other W18 (ne_exa E_em E_b0 (by decide))
  have V_de := V_de.other W18 (O0.ne BB.2.2.2.2.lt g_b0)
  have E_la := E_la.wr W18
  have V_la := V_la.other W18 (Ne.symm ne_b0_la)
  have Z0 := Nat.le_trans Z0 (Keep.of_wr W18).1
  have K0 := K0.wr W18 (Or.inl (List.mem_of_getElem? (i := 0) rfl))
  have N0 := Fr.snoc X18 N0 g_b0
  have O0 := O0.wr W18 g_b0
  refine oS (B := T18.setTop (mkF m 134 #[rv b0, rv sa, iv 0, iv 2] [])) (fun t k => st18 t k) ?_
  refine oS (B := T18.setTop (mkF m 135 #[rv b0, rv sa, iv 0, iv 2] [(.int 0)])) (fun t k => XS.iloadN X18.here hx rfl (hb hby d3_134) rfl k) ?_
  refine oS (B := T18.setTop (mkF m 136 #[rv b0, rv sa, iv 0, iv 2] [(.int 2), (.int 0)])) (fun t k => XS.iloadN X18.here hx rfl (hb hby d3_135) rfl k) ?_
  refine oS (B := T18.setTop (mkF m 137 #[rv b0, rv sa, iv 0, iv 2] [(.int 2)])) (fun t k => XS.iadd X18.here hx rfl (hb hby d3_136) rfl k) ?_
  refine oS (B := T18.setTop (mkF m 138 #[rv b0, rv sa, iv 2, iv 2] [])) (fun t k => XS.istoreN X18.here hx rfl (hb hby d3_137) rfl (l' := #[rv b0, rv sa, iv 2, iv 2]) rfl k) ?_
  refine oS (B := T18.setTop (mkF m 2 #[rv b0, rv sa, iv 2, iv 2] [])) (fun t k => XS.goto X18.here hx rfl (pc0 := 138) (pc' := 2) rfl (hb hby d3_138) (by decide) (by decide) k) ?_
  refine oS (B := T18.setTop (mkF m 3 #[rv b0, rv sa, iv 2, iv 2] [(.int 2)])) (fun t k => XS.iloadN X18.here hx rfl (hb hby d3_2) rfl k) ?_
  refine oS (B := T18.setTop (mkF m 4 #[rv b0, rv sa, iv 2, iv 2] [(.ref sa), (.int 2)])) (fun t k => XS.aloadN X18.here hx rfl (hb hby d3_3) rfl rfl k) ?_
  have Vo_19 := V_sa
  obtain ⟨cl_19, Ar_19, q_19, S_19, M_19, H_19, G_19⟩ := Vo_19
  refine oS (B := T18.setTop (mkF m 5 #[rv b0, rv sa, iv 2, iv 2] [(.int 2), (.int 2)])) (fun t k => X18.arraylength hx (by rw [e18]; exact Ar_19.1) (State.isArrayOf_alike hZ.alike Ar_19.2.1) (g := (mkF m 4 #[rv b0, rv sa, iv 2, iv 2] [(.ref sa), (.int 2)])) rfl rfl (hb hby d3_4) t (by rw [len_of S_19 M_19]; exact k)) ?_
  refine oS (B := T18.setTop (mkF m 141 #[rv b0, rv sa, iv 2, iv 2] [])) (fun t k => XS.icmpYes X18.here hx rfl (pc0 := 5) (pc' := 141) rfl (hb hby d3_5) rfl (flt (by decide)).2.1 (by decide) (by decide) k) ?_
  refine oS (B := T18.setTop (mkF m 142 #[rv b0, rv sa, iv 2, iv 2] [(.ref b0)])) (fun t k => XS.aloadN X18.here hx rfl (hb hby d3_141) rfl rfl k) ?_
  refine oS (B := T18.setTop (mkF m 143 #[rv b0, rv sa, iv 2, iv 2] [(.ref b0), (.ref b0)])) (fun t k => XS.dup X18.here hx rfl (hb hby d3_142) rfl rfl k) ?_
  obtain ⟨T20, X20, e20, st20⟩ := getF X18 hx hZ hown (host := "") (Or.inl (ow hw 19 rfl)) Via.refl e18 F_length_b0 (g := (mkF m 143 #[rv b0, rv sa, iv 2, iv 2] [(.ref b0), (.ref b0)])) rfl rfl (hb hby d3_143)
  refine oS (B := T20.setTop (mkF m 146 #[rv b0, rv sa, iv 2, iv 2] [(.int 0), (.ref b0)])) (fun t k => st20 t k) ?_
  refine oS (B := T20.setTop (mkF m 147 #[rv b0, rv sa, iv 2, iv 2] [(.ref sa), (.int 0), (.ref b0)])) (fun t k => XS.aloadN X20.here hx rfl (hb hby d3_146) rfl rfl k) ?_
  have Vo_21 := V_sa
  obtain ⟨cl_21, Ar_21, q_21, S_21, M_21, H_21, G_21⟩ := Vo_21
  refine oS (B := T20.setTop (mkF m 148 #[rv b0, rv sa, iv 2, iv 2] [(.int 2), (.int 0), (.ref b0)])) (fun t k => X20.arraylength hx (by rw [e20]; exact Ar_21.1) (State.isArrayOf_alike hZ.alike Ar_21.2.1) (g := (mkF m 147 #[rv b0, rv sa, iv 2, iv 2] [(.ref sa), (.int 0), (.ref b0)])) rfl rfl (hb hby d3_147) t (by rw [len_of S_21 M_21]; exact k)) ?_
  refine oS (B := T20.setTop (mkF m 149 #[rv b0, rv sa, iv 2, iv 2] [(.int 2), (.ref b0)])) (fun t k => XS.iadd X20.here hx rfl (hb hby d3_148) rfl k) ?_
  obtain ⟨T22, h22, X22, e22, W22, st22⟩ := putF X20 hx hZ hown (host := "") (Or.inl (ow hw 19 rfl)) Via.refl e20 F_length_b0 E_b0 (Or.inl (ow hw 20 rfl)) (ow hw 2 rfl) (ty := .int) (by decide) rfl rfl (g := (mkF m 149 #[rv b0, rv sa, iv 2, iv 2] [(.int 2), (.ref b0)])) rfl rfl (hb hby d3_149)
  have E_b0 := E_b0.wr W22
  have F_full_b0 := F_full_b0.other W22 (Or.inr (slot_ne (Or.inl (ow hw 27 rfl)) (Or.inl (ow hw 20 rfl)) (by decide) (t := (.object "java/util/List")) (t' := .int) (by decide) (by decide)))
  have F_last_b0 := F_last_b0.other W22 (Or.inr (slot_ne (Or.inl (ow hw 13 rfl)) (Or.inl (ow hw 20 rfl)) (by decide) (t := (.array .byte)) (t' := .int) (by decide) (by decide)))
  have F_lastLength_b0 := F_lastLength_b0.other W22 (Or.inr (slot_ne (Or.inl (ow hw 29 rfl)) (Or.inl (ow hw 20 rfl)) (by decide) (t := .int) (t' := .int) (by decide) (by decide)))
  have F_length_b0 := F_length_b0.same W22
  have V_sa := V_sa.other W22 (Ne.symm ne_b0_sa)
  have E_em := E_em.wr W22
  have V_em := V_em.other W22 (ne_exa E_em E_b0 (by decide))
  have V_de := V_de.other W22 (O0.ne BB.2.2.2.2.lt g_b0)
  have E_la := E_la.wr W22
  have V_la := V_la.other W22 (Ne.symm ne_b0_la)
  have Z0 := Nat.le_trans Z0 (Keep.of_wr W22).1
  have K0 := K0.wr W22 (Or.inl (List.mem_of_getElem? (i := 0) rfl))
  have N0 := Fr.snoc X22 N0 g_b0
  have O0 := O0.wr W22 g_b0
  refine oS (B := T22.setTop (mkF m 152 #[rv b0, rv sa, iv 2, iv 2] [])) (fun t k => st22 t k) ?_
  exact own_retV X22 hx hlk Bd.returns (hb hby d3_152) (by decide) (by decide) (by rw [e22]; exact ⟨_, _, _, rfl, N0, K0, F_full_b0, F_last_b0, F_lastLength_b0, F_length_b0, g_la, sz_la, E_la, V_la, fun i hi => (own_take _ _ 2 (.int 0) _ _ rfl i hi).trans (by show vs.getD (0 + i) _ = _; rw [Nat.zero_add])⟩)
theorem ef_rms_3 (m : MethodId) (x0 : Addr) (x1 : Addr) : entryFrame m #[(.ref x0), (.ref x1)] 4 = mkF m 0 #[rv x0, rv x1, .unset, .unset] [] := by first | (simp [entryFrame, mkF, argsToLocals, Value.category]; done) | rfl
def QQ_rms_3 (Z : State) (b0 : Addr) (sa : Addr) (em : Addr) (ke : ClassId) (de : Addr) (kd : ClassId) (ks : ClassId) (vs : List Value) (h0 : Heap) (n0 : Nat) (v : Option Value) (h : Heap) (L : List Loc) : Prop := ∃ (la : Addr) (kl : ClassId) (vl : List Value), v = none ∧ Fr n0 L ∧ Keep h0 h [b0] ∧ Fld Z h b0 "com/example/loomwire/loomwire/transport/MessageBuffer" "full" "Ljava/util/List;" .null ∧ Fld Z h b0 "com/example/loomwire/loomwire/transport/MessageBuffer" "last" "[B" (.ref la) ∧ Fld Z h b0 "com/example/loomwire/loomwire/transport/MessageBuffer" "lastLength" "I" (.int 3) ∧ Fld Z h b0 "com/example/loomwire/loomwire/transport/MessageBuffer" "length" "I" (.int 3) ∧ n0 ≤ la ∧ h0.size ≤ la ∧ Exa Z h la "[B" ∧ Arv Z h la kl .byte (4 : Int32) vl (.int 0) ∧ ∀ i, i < 3 → vl.getD i (.int 0) = vs.getD i (.int 0)
set_option maxRecDepth 65536 in
set_option maxHeartbeats 40000000 in
theorem rms_3 (l : Launch) (Z : State) (a0 : Array Value) (hw : ∀ d ∈ tables_1, d.before a0 Z = true) (ws : List Jvm.Cond) (b0 : Addr) (sa : Addr) (em : Addr) (ke : ClassId) (de : Addr) (kd : ClassId) (ks : ClassId) (vs : List Value) (h0 : Heap) (n0 : Nat) (Z0 : n0 ≤ h0.size) (E_b0 : Exa Z h0 b0 "com/example/loomwire/loomwire/transport/MessageBuffer") (g_b0 : n0 ≤ b0) (F_full_b0 : Fld Z h0 b0 "com/example/loomwire/loomwire/transport/MessageBuffer" "full" "Ljava/util/List;" .null) (F_last_b0 : Fld Z h0 b0 "com/example/loomwire/loomwire/transport/MessageBuffer" "last" "[B" (.ref em)) (F_lastLength_b0 : Fld Z h0 b0 "com/example/loomwire/loomwire/transport/MessageBuffer" "lastLength" "I" (.int 0)) (F_length_b0 : Fld Z h0 b0 "com/example/loomwire/loomwire/transport/MessageBuffer" "length" "I" (.int 0)) (BB : own_Base Z em ke de kd) (O0 : Old Z n0 h0) (ne_b0_sa : b0 ≠ sa) (V_sa : Arv Z h0 sa ks .byte (3 : Int32) vs (.int 0)) :
    MetFree l (⟨"com/example/loomwire/loomwire/transport/MessageBuffer", "append", "([B)V"⟩ : MethodName) (head1 (Jvm.Cond.code (⟨"com/example/loomwire/loomwire/transport/MessageBuffer", "append", "([B)V"⟩ : MethodName) prog_102_method_4_code 4 none :: ws) ({ frames := 3, cells := 1, slots := 4, locals := 80 } : Room)) (fun a U => a = #[(.ref b0), (.ref sa)] ∧ Z.Warmed39 U.vm ∧ U.heap = h0) (fun _ _ _ _ _ => True) (fun _ U o U' => ∃ v L, o = .returned v ∧ (QQ_rms_3 Z b0 sa em ke de kd ks vs h0 n0) v U'.heap L ∧ FrameEnd U o U' L ({ frames := 3, cells := 1, slots := 4, locals := 80 } : Room).cells ({ frames := 3, cells := 1, slots := 4, locals := 80 } : Room).slots) := by
  refine MetFree.of_bodySF (plainFor_of_name pn_com_example_loomwire_loomwire_transport_MessageBuffer) hisR ?_
  intro p e s m args below meth c s₁ Bd hml0 hP hK
  obtain ⟨rfl, hZ, hh⟩ := hP
  have hx := Bd.exec
  have hby := Bd.bytes
  have hlk : meth.locks = false := BodyLoose.notSynchronized Bd
  have hml : c.maxLocals = 4 := hml0
  have hown : s.vm.findClass "com/example/loomwire/loomwire/transport/MessageBuffer" = some m.cls := findClass_of_methodNamed Bd.named
  have hnm := (name_of_methodNamed Bd.named Bd.method).1
  have X0 : Stand p l e ({ frames := 3, cells := 1, slots := 4, locals := 80 } : Room) s m #[(.ref b0), (.ref sa)] below meth c s₁ [] 0 0 := Stand.of_body Bd
  have e0 : s₁.heap = h0 := by rw [← hh, Bd.state]; rfl
  have N0 := Fr.nil n0
  show own_G p.tables e below s (QQ_rms_3 Z b0 sa em ke de kd ks vs h0 n0) ({ frames := 3, cells := 1, slots := 4, locals := 80 } : Room).cells ({ frames := 3, cells := 1, slots := 4, locals := 80 } : Room).slots (s₁.setTop (entryFrame m #[(.ref b0), (.ref sa)] 4))
  refine oS (B := s₁.setTop (mkF m 0 #[rv b0, rv sa, .unset, .unset] [])) (fun t k => castTop (ef_rms_3 m b0 sa) k) ?_
  have V_em := BB.2.2.1.ext O0.2
  have E_em := BB.2.1.ext O0.2
  have V_de := BB.2.2.2.2.ext O0.2
  have K0 := Keep.refl h0 [b0]
  refine oS (B := s₁.setTop (mkF m 1 #[rv b0, rv sa, .unset, .unset] [(.int 0)])) (fun t k => XS.iconst X0.here hx rfl (hb hby d3_0) k) ?_
  refine oS (B := s₁.setTop (mkF m 2 #[rv b0, rv sa, iv 0, .unset] [])) (fun t k => XS.istoreN X0.here hx rfl (hb hby d3_1) rfl (l' := #[rv b0, rv sa, iv 0, .unset]) rfl k) ?_
  refine oS (B := s₁.setTop (mkF m 3 #[rv b0, rv sa, iv 0, .unset] [(.int 0)])) (fun t k => XS.iloadN X0.here hx rfl (hb hby d3_2) rfl k) ?_
  refine oS (B := s₁.setTop (mkF m 4 #[rv b0, rv sa, iv 0, .unset] [(.ref sa), (.int 0)])) (fun t k => XS.aloadN X0.here hx rfl (hb hby d3_3) rfl rfl k) ?_
  have Vo_1 := V_sa
  obtain ⟨cl_1, Ar_1, q_1, S_1, M_1, H_1, G_1⟩ := Vo_1
  refine oS (B := s₁.setTop (mkF m 5 #[rv b0, rv sa, iv 0, .unset] [(.int 3), (.int 0)])) (fun t k => X0.arraylength hx (by rw [e0]; exact Ar_1.1) (State.isArrayOf_alike hZ.alike Ar_1.2.1) (g := (mkF m 4 #[rv b0, rv sa, iv 0, .unset] [(.ref sa), (.int 0)])) rfl rfl (hb hby d3_4) t (by rw [len_of S_1 M_1]; exact k)) ?_
  refine oS (B := s₁.setTop (mkF m 8 #[rv b0, rv sa, iv 0, .unset] [])) (fun t k => XS.icmpNo X0.here hx rfl (hb hby d3_5) rfl (tlt (by decide)).2.1 k) ?_
  refine oS (B := s₁.setTop (mkF m 9 #[rv b0, rv sa, iv 0, .unset] [(.ref b0)])) (fun t k => XS.aloadN X0.here hx rfl (hb hby d3_8) rfl rfl k) ?_
  obtain ⟨T2, X2, e2, st2⟩ := getF X0 hx hZ hown (host := "") (Or.inl (ow hw 28 rfl)) Via.refl e0 F_lastLength_b0 (g := (mkF m 9 #[rv b0, rv sa, iv 0, .unset] [(.ref b0)])) rfl rfl (hb hby d3_9)
  refine oS (B := T2.setTop (mkF m 12 #[rv b0, rv sa, iv 0, .unset] [(.int 0)])) (fun t k => st2 t k) ?_
  refine oS (B := T2.setTop (mkF m 14 #[rv b0, rv sa, iv 0, .unset] [(.int 65536), (.int 0)])) (fun t k => X2.ldcInt hx hown (mvT hZ (ow hw 54 rfl)) (g := (mkF m 12 #[rv b0, rv sa, iv 0, .unset] [(.int 0)])) rfl (hb hby d3_12) t k) ?_
  refine oS (B := T2.setTop (mkF m 61 #[rv b0, rv sa, iv 0, .unset] [])) (fun t k => XS.icmpYes X2.here hx rfl (pc0 := 14) (pc' := 61) rfl (hb hby d3_14) rfl (feq (by decide)).2 (by decide) (by decide) k) ?_
  refine oS (B := T2.setTop (mkF m 62 #[rv b0, rv sa, iv 0, .unset] [(.ref sa)])) (fun t k => XS.aloadN X2.here hx rfl (hb hby d3_61) rfl rfl k) ?_
  have Vo_3 := V_sa
  obtain ⟨cl_3, Ar_3, q_3, S_3, M_3, H_3, G_3⟩ := Vo_3
  refine oS (B := T2.setTop (mkF m 63 #[rv b0, rv sa, iv 0, .unset] [(.int 3)])) (fun t k => X2.arraylength hx (by rw [e2]; exact Ar_3.1) (State.isArrayOf_alike hZ.alike Ar_3.2.1) (g := (mkF m 62 #[rv b0, rv sa, iv 0, .unset] [(.ref sa)])) rfl rfl (hb hby d3_62) t (by rw [len_of S_3 M_3]; exact k)) ?_
  refine oS (B := T2.setTop (mkF m 64 #[rv b0, rv sa, iv 0, .unset] [(.int 0), (.int 3)])) (fun t k => XS.iloadN X2.here hx rfl (hb hby d3_63) rfl k) ?_
  refine oS (B := T2.setTop (mkF m 65 #[rv b0, rv sa, iv 0, .unset] [(.int 3)])) (fun t k => XS.isub X2.here hx rfl (hb hby d3_64) rfl k) ?_
  refine oS (B := T2.setTop (mkF m 67 #[rv b0, rv sa, iv 0, .unset] [(.int 65536), (.int 3)])) (fun t k => X2.ldcInt hx hown (mvT hZ (ow hw 54 rfl)) (g := (mkF m 65 #[rv b0, rv sa, iv 0, .unset] [(.int 3)])) rfl (hb hby d3_65) t k) ?_
  refine oS (B := T2.setTop (mkF m 68 #[rv b0, rv sa, iv 0, .unset] [(.ref b0), (.int 65536), (.int 3)])) (fun t k => XS.aloadN X2.here hx rfl (hb hby d3_67) rfl rfl k) ?_
  obtain ⟨T4, X4, e4, st4⟩ := getF X2 hx hZ hown (host := "") (Or.inl (ow hw 28 rfl)) Via.refl e2 F_lastLength_b0 (g := (mkF m 68 #[rv b0, rv sa, iv 0, .unset] [(.ref b0), (.int 65536), (.int 3)])) rfl rfl (hb hby d3_68)
  refine oS (B := T4.setTop (mkF m 71 #[rv b0, rv sa, iv 0, .unset] [(.int 0), (.int 65536), (.int 3)])) (fun t k => st4 t k) ?_
  refine oS (B := T4.setTop (mkF m 72 #[rv b0, rv sa, iv 0, .unset] [(.int 65536), (.int 3)])) (fun t k => XS.isub X4.here hx rfl (hb hby d3_71) rfl k) ?_
  obtain ⟨_, _, ⟨T5, L5, k5, n5⟩, -, X5, ⟨Lc5, hQ5, l5, y5, z5⟩, st5⟩ := Jvm.LawKit.callS X4 hx (y := (⟨"java/lang/Math", "min", "(II)I"⟩ : MethodName)) hown (mvT hZ (ow hw 55 rfl)) (mvT hZ (ow hw 56 rfl)) (mvT hZ (ow hw 57 rfl)) (mvT hZ (ow hw 58 rfl)) (by decide) (backOf (W := 0) (rm8 l Z a0 hw [] (3 : Int32) (65536 : Int32)  h0 n0 Z0 ) hZ (ow hw 58 rfl) (ow hw 57 rfl) (by decide) (by decide)) (g := (mkF m 72 #[rv b0, rv sa, iv 0, .unset] [(.int 65536), (.int 3)])) rfl (by rw [hml]; rfl) (argsL := [(.int 3), (.int 65536)]) (rest := []) (lenOf pd_1 rfl) rfl (by show 2 * 0 + _ ≤ _; exact Nat.le_of_eq rfl) (hb hby d3_72) (fun _ _ => ⟨rfl, e4, (by decide : 0 + 0 ≤ _), (by decide : 0 + 0 ≤ _)⟩)
  dsimp only [Pt.U, Pt.locs, Pt.cells, Pt.slots] at X5 l5 y5 z5 st5 hQ5
  subst l5 y5 z5
  obtain ⟨rfl, N5q, e5⟩ := hQ5
  have N0 := Fr.app N0 N5q
  refine oS (B := T5.setTop (mkF m 75 #[rv b0, rv sa, iv 0, .unset] [(.int (own_min (3 : Int32) (65536 : Int32)))])) (fun t k => st5 t k) ?_
  have hlit5 : (own_min (3 : Int32) (65536 : Int32)) = (3 : Int32) := by decide
  rw [hlit5]
  refine oS (B := T5.setTop (mkF m 76 #[rv b0, rv sa, iv 0, iv 3] [])) (fun t k => XS.istoreN X5.here hx rfl (hb hby d3_75) rfl (l' := #[rv b0, rv sa, iv 0, iv 3]) rfl k) ?_
  refine oS (B := T5.setTop (mkF m 77 #[rv b0, rv sa, iv 0, iv 3] [(.ref b0)])) (fun t k => XS.aloadN X5.here hx rfl (hb hby d3_76) rfl rfl k) ?_
  obtain ⟨T6, X6, e6, st6⟩ := getF X5 hx hZ hown (host := "") (Or.inl (ow hw 28 rfl)) Via.refl e5 F_lastLength_b0 (g := (mkF m 77 #[rv b0, rv sa, iv 0, iv 3] [(.ref b0)])) rfl rfl (hb hby d3_77)
  refine oS (B := T6.setTop (mkF m 80 #[rv b0, rv sa, iv 0, iv 3] [(.int 0)])) (fun t k => st6 t k) ?_
  refine oS (B := T6.setTop (mkF m 81 #[rv b0, rv sa, iv 0, iv 3] [(.int 3), (.int 0)])) (fun t k => XS.iloadN X6.here hx rfl (hb hby d3_80) rfl k) ?_
  refine oS (B := T6.setTop (mkF m 82 #[rv b0, rv sa, iv 0, iv 3] [(.int 3)])) (fun t k => XS.iadd X6.here hx rfl (hb hby d3_81) rfl k) ?_
  refine oS (B := T6.setTop (mkF m 83 #[rv b0, rv sa, iv 0, iv 3] [(.ref b0), (.int 3)])) (fun t k => XS.aloadN X6.here hx rfl (hb hby d3_82) rfl rfl k) ?_
  obtain ⟨T7, X7, e7, st7⟩ := getF X6 hx hZ hown (host := "") (Or.inl (ow hw 12 rfl)) Via.refl e6 F_last_b0 (g := (mkF m 83 #[rv b0, rv sa, iv 0, iv 3] [(.ref b0), (.int 3)])) rfl rfl (hb hby d3_83)
  refine oS (B := T7.setTop (mkF m 86 #[rv b0, rv sa, iv 0, iv 3] [(.ref em), (.int 3)])) (fun t k => st7 t k) ?_
  have Vo_8 := V_em
  obtain ⟨cl_8, Ar_8, q_8, S_8, M_8, H_8, G_8⟩ := Vo_8
  refine oS (B := T7.setTop (mkF m 87 #[rv b0, rv sa, iv 0, iv 3] [(.int 0), (.int 3)])) (fun t k => X7.arraylength hx (by rw [e7]; exact Ar_8.1) (State.isArrayOf_alike hZ.alike Ar_8.2.1) (g := (mkF m 86 #[rv b0, rv sa, iv 0, iv 3] [(.ref em), (.int 3)])) rfl rfl (hb hby d3_86) t (by rw [len_of S_8 M_8]; exact k)) ?_
  refine oS (B := T7.setTop (mkF m 90 #[rv b0, rv sa, iv 0, iv 3] [])) (fun t k => XS.icmpNo X7.here hx rfl (hb hby d3_87) rfl (tlt (by decide)).2.2.2 k) ?_
  refine oS (B := T7.setTop (mkF m 91 #[rv b0, rv sa, iv 0, iv 3] [(.ref b0)])) (fun t k => XS.aloadN X7.here hx rfl (hb hby d3_90) rfl rfl k) ?_
  refine oS (B := T7.setTop (mkF m 92 #[rv b0, rv sa, iv 0, iv 3] [(.ref b0), (.ref b0)])) (fun t k => XS.aloadN X7.here hx rfl (hb hby d3_91) rfl rfl k) ?_
  obtain ⟨T9, X9, e9, st9⟩ := getF X7 hx hZ hown (host := "") (Or.inl (ow hw 12 rfl)) Via.refl e7 F_last_b0 (g := (mkF m 92 #[rv b0, rv sa, iv 0, iv 3] [(.ref b0), (.ref b0)])) rfl rfl (hb hby d3_92)
  refine oS (B := T9.setTop (mkF m 95 #[rv b0, rv sa, iv 0, iv 3] [(.ref em), (.ref b0)])) (fun t k => st9 t k) ?_
  refine oS (B := T9.setTop (mkF m 96 #[rv b0, rv sa, iv 0, iv 3] [(.ref b0), (.ref em), (.ref b0)])) (fun t k => XS.aloadN X9.here hx rfl (hb hby d3_95) rfl rfl k) ?_
  obtain ⟨T10, X10, e10, st10⟩ := getF X9 hx hZ hown (host := "") (Or.inl (ow hw 28 rfl)) Via.refl e9 F_lastLength_b0 (g := (mkF m 96 #[rv b0, rv sa, iv 0, iv 3] [(.ref b0), (.ref em), (.ref b0)])) rfl rfl (hb hby d3_96)
  refine oS (B := T10.setTop (mkF m 99 #[rv b0, rv sa, iv 0, iv 3] [(.int 0), (.ref em), (.ref b0)])) (fun t k => st10 t k) ?_
  refine oS (B := T10.setTop (mkF m 100 #[rv b0, rv sa, iv 0, iv 3] [(.int 3), (.int 0), (.ref em), (.ref b0)])) (fun t k => XS.iloadN X10.here hx rfl (hb hby d3_99) rfl k) ?_
  refine oS (B := T10.setTop (mkF m 101 #[rv b0, rv sa, iv 0, iv 3] [(.int 3), (.ref em), (.ref b0)])) (fun t k => XS.iadd X10.here hx rfl (hb hby d3_100) rfl k) ?_
  obtain ⟨_, _, ⟨T11, L11, k11, n11⟩, -, X11, ⟨Lc11, hQ11, l11, y11, z11⟩, st11⟩ := Jvm.LawKit.callS X10 hx (y := (⟨"com/example/loomwire/loomwire/transport/MessageBuffer", "chunkCapacity", "(I)I"⟩ : MethodName)) hown (mvT hZ (ow hw 59 rfl)) (mvT hZ (ow hw 60 rfl)) (mvT hZ (ow hw 3 rfl)) (mvT hZ (ow hw 61 rfl)) (by decide) (backOf (W := 2) (rm9_3 l Z a0 hw []   h0 n0 Z0 ) hZ (ow hw 61 rfl) (ow hw 3 rfl) (by decide) (by decide)) (g := (mkF m 101 #[rv b0, rv sa, iv 0, iv 3] [(.int 3), (.ref em), (.ref b0)])) rfl (by rw [hml]; rfl) (argsL := [(.int 3)]) (rest := [(.ref em), (.ref b0)]) (lenOf pd_0 rfl) rfl (by show 2 * 0 + _ ≤ _; exact Nat.le_of_eq rfl) (hb hby d3_101) (fun _ _ => ⟨rfl, e10, (by decide : 0 + 0 ≤ _), (by decide : 0 + 0 ≤ _)⟩)
  dsimp only [Pt.U, Pt.locs, Pt.cells, Pt.slots] at X11 l11 y11 z11 st11 hQ11
  subst l11 y11 z11
  obtain ⟨rfl, N11q, e11⟩ := hQ11
  have N0 := Fr.app N0 N11q
  refine oS (B := T11.setTop (mkF m 104 #[rv b0, rv sa, iv 0, iv 3] [(.int 4), (.ref em), (.ref b0)])) (fun t k => st11 t k) ?_
  have lt_b0 := E_b0.lt
  have lt_sa := V_sa.lt
  have KZ := K0
  obtain ⟨_, _, ⟨T12, L12, k12, n12⟩, -, X12, ⟨Lc12, hQ12, l12, y12, z12⟩, st12⟩ := Jvm.LawKit.callS X11 hx (y := (⟨"java/util/Arrays", "copyOf", "([BI)[B"⟩ : MethodName)) hown (mvT hZ (ow hw 40 rfl)) (mvT hZ (ow hw 41 rfl)) (mvT hZ (ow hw 42 rfl)) (mvT hZ (ow hw 43 rfl)) (by decide) (backOf (W := 1) (rmg_4 l Z a0 hw []  em ke de kd h0 n0 Z0 BB O0) hZ (ow hw 43 rfl) (ow hw 42 rfl) (by decide) (by decide)) (g := (mkF m 104 #[rv b0, rv sa, iv 0, iv 3] [(.int 4), (.ref em), (.ref b0)])) rfl (by rw [hml]; rfl) (argsL := [(.ref em), (.int 4)]) (rest := [(.ref b0)]) (lenOf pd_6 rfl) rfl (by show 2 * 0 + _ ≤ _; exact Nat.le_of_eq rfl) (hb hby d3_104) (fun _ _ => ⟨rfl, e11, (by decide : 0 + 1 ≤ _), (by decide : 0 + 4 ≤ _)⟩)
  dsimp only [Pt.U, Pt.locs, Pt.cells, Pt.slots] at X12 l12 y12 z12 st12 hQ12
  subst l12 y12 z12
  obtain ⟨la, kla, vla, rfl, N12q, K12, g_la, sz'_la, E_la, V_la, hlla⟩ := hQ12
  have N0 := Fr.app N0 N12q
  have E_b0 := E_b0.keep K12
  have F_full_b0 := F_full_b0.keep K12 nin0
  have F_last_b0 := F_last_b0.keep K12 nin0
  have F_lastLength_b0 := F_lastLength_b0.keep K12 nin0
  have F_length_b0 := F_length_b0.keep K12 nin0
  have V_sa := V_sa.keep K12 nin0
  have E_em := E_em.keep K12
  have V_em := V_em.keep K12 nin0
  have V_de := V_de.keep K12 nin0
  have Z0 := Nat.le_trans Z0 K12.1
  have O0 := O0.keep K12 all0
  have K0 := K0.trans K12 all0
  have ne_b0_la : b0 ≠ la := Nat.ne_of_lt (Nat.lt_of_lt_of_le lt_b0 sz'_la)
  have ne_sa_la : sa ≠ la := Nat.ne_of_lt (Nat.lt_of_lt_of_le lt_sa sz'_la)
  have sz_la : h0.size ≤ la := Nat.le_trans KZ.1 sz'_la
  refine oS (B := T12.setTop (mkF m 107 #[rv b0, rv sa, iv 0, iv 3] [(.ref la), (.ref b0)])) (fun t k => st12 t k) ?_
  obtain ⟨T13, h13, X13, e13, W13, st13⟩ := putF X12 hx hZ hown (host := "") (Or.inl (ow hw 12 rfl)) Via.refl rfl F_last_b0 E_b0 (Or.inl (ow hw 13 rfl)) (ow hw 2 rfl) (ty := (.array .byte)) (by decide) rfl rfl (g := (mkF m 107 #[rv b0, rv sa, iv 0, iv 3] [(.ref la), (.ref b0)])) rfl rfl (hb hby d3_107)
  have E_b0 := E_b0.wr W13
  have F_full_b0 := F_full_b0.other W13 (Or.inr (slot_ne (Or.inl (ow hw 27 rfl)) (Or.inl (ow hw 13 rfl)) (by decide) (t := (.object "java/util/List")) (t' := (.array .byte)) (by decide) (by decide)))
  have F_last_b0 := F_last_b0.same W13
  have F_lastLength_b0 := F_lastLength_b0.other W13 (Or.inr (slot_ne (Or.inl (ow hw 29 rfl)) (Or.inl (ow hw 13 rfl)) (by decide) (t := .int) (t' := (.array .byte)) (by decide) (by decide)))
  have F_length_b0 := F_length_b0.other W13 (Or.inr (slot_ne (Or.inl (ow hw 20 rfl)) (Or.inl (ow hw 13 rfl)) (by decide) (t := .int) (t' := (.array .byte)) (by decide) (by decide)))
  have V_sa := V_sa.other W13 (Ne.symm ne_b0_sa)
  have E_em := E_em.wr W13
  have V_em := V_em.other W13 (ne_exa E_em E_b0 (by decide))
  have V_de := V_de.other W13 (O0.ne BB.2.2.2.2.lt g_b0)
  have E_la := E_la.wr W13
  have V_la := V_la.other W13 (Ne.symm ne_b0_la)
  have Z0 := Nat.le_trans Z0 (Keep.of_wr W13).1
  have K0 := K0.wr W13 (Or.inl (List.mem_of_getElem? (i := 0) rfl))
  have N0 := Fr.snoc X13 N0 g_b0
  have O0 := O0.wr W13 g_b0
  refine oS (B := T13.setTop (mkF m 110 #[rv b0, rv sa, iv 0, iv 3] [])) (fun t k => st13 t k) ?_
  refine oS (B := T13.setTop (mkF m 111 #[rv b0, rv sa, iv 0, iv 3] [(.ref sa)])) (fun t k => XS.aloadN X13.here hx rfl (hb hby d3_110) rfl rfl k) ?_
  refine oS (B := T13.setTop (mkF m 112 #[rv b0, rv sa, iv 0, iv 3] [(.int 0), (.ref sa)])) (fun t k => XS.iloadN X13.here hx rfl (hb hby d3_111) rfl k) ?_
  refine oS (B := T13.setTop (mkF m 113 #[rv b0, rv sa, iv 0, iv 3] [(.ref b0), (.int 0), (.ref sa)])) (fun t k => XS.aloadN X13.here hx rfl (hb hby d3_112) rfl rfl k) ?_
  obtain ⟨T14, X14, e14, st14⟩ := getF X13 hx hZ hown (host := "") (Or.inl (ow hw 12 rfl)) Via.refl e13 F_last_b0 (g := (mkF m 113 #[rv b0, rv sa, iv 0, iv 3] [(.ref b0), (.int 0), (.ref sa)])) rfl rfl (hb hby d3_113)
  refine oS (B := T14.setTop (mkF m 116 #[rv b0, rv sa, iv 0, iv 3] [(.ref la), (.int 0), (.ref sa)])) (fun t k => st14 t k) ?_
  refine oS (B := T14.setTop (mkF m 117 #[rv b0, rv sa, iv 0, iv 3] [(.ref b0), (.ref la), (.int 0), (.ref sa)])) (fun t k => XS.aloadN X14.here hx rfl (hb hby d3_116) rfl rfl k) ?_
  obtain ⟨T15, X15, e15, st15⟩ := getF X14 hx hZ hown (host := "") (Or.inl (ow hw 28 rfl)) Via.refl e14 F_lastLength_b0 (g := (mkF m 117 #[rv b0, rv sa, iv 0, iv 3] [(.ref b0), (.ref la), (.int 0), (.ref sa)])) rfl rfl (hb hby d3_117)
  refine oS (B := T15.setTop (mkF m 120 #[rv b0, rv sa, iv 0, iv 3] [(.int 0), (.ref la), (.int 0), (.ref sa)])) (fun t k => st15 t k) ?_
  refine oS (B := T15.setTop (mkF m 121 #[rv b0, rv sa, iv 0, iv 3] [(.int 3), (.int 0), (.ref la), (.int 0), (.ref sa)])) (fun t k => XS.iloadN X15.here hx rfl (hb hby d3_120) rfl k) ?_
  obtain ⟨T16, h16, L16, X16, e16, N16q, K16, VC16, st16⟩ := cpA X15 hx hZ hown (ow hw 76 rfl) (ow hw 75 rfl) (ow hw 73 rfl) (ow hw 74 rfl) e15 V_sa V_la (Or.inl ⟨rfl, rfl⟩) (by decide) (by decide) (by decide) (by decide) (by decide) rfl (by rw [hlla]; decide) N0 g_la (g := (mkF m 121 #[rv b0, rv sa, iv 0, iv 3] [(.int 3), (.int 0), (.ref la), (.int 0), (.ref sa)])) rfl (by rw [hml]; rfl) rfl (hb hby d3_121) (by decide) (W := 0) (by show 2 * 0 + _ ≤ _; exact Nat.le_of_eq rfl) (by decide)
  have E_b0 := E_b0.keep K16
  have F_full_b0 := F_full_b0.keep K16 (ninS ne_b0_la nin0)
  have F_last_b0 := F_last_b0.keep K16 (ninS ne_b0_la nin0)
  have F_lastLength_b0 := F_lastLength_b0.keep K16 (ninS ne_b0_la nin0)
  have F_length_b0 := F_length_b0.keep K16 (ninS ne_b0_la nin0)
  have V_sa := V_sa.keep K16 (ninS ne_sa_la nin0)
  have E_em := E_em.keep K16
  have V_em := V_em.keep K16 (ninS (O0.ne BB.2.2.1.lt g_la) nin0)
  have V_de := V_de.keep K16 (ninS (O0.ne BB.2.2.2.2.lt g_la) nin0)
  have E_la := E_la.keep K16
  have Z0 := Nat.le_trans Z0 K16.1
  have O0 := O0.keep K16 (allS g_la all0)
  have K0 := K0.trans K16 (allS (Or.inr sz_la) all0)
  have N0 := N16q
  have V_la := VC16
  refine oS (B := T16.setTop (mkF m 124 #[rv b0, rv sa, iv 0, iv 3] [])) (fun t k => st16 t k) ?_
  refine oS (B := T16.setTop (mkF m 125 #[rv b0, rv sa, iv 0, iv 3] [(.ref b0)])) (fun t k => XS.aloadN X16.here hx rfl (hb hby d3_124) rfl rfl k) ?_
  refine oS (B := T16.setTop (mkF m 126 #[rv b0, rv sa, iv 0, iv 3] [(.ref b0), (.ref b0)])) (fun t k => XS.dup X16.here hx rfl (hb hby d3_125) rfl rfl k) ?_
  obtain ⟨T17, X17, e17, st17⟩ := getF X16 hx hZ hown (host := "") (Or.inl (ow hw 28 rfl)) Via.refl e16 F_lastLength_b0 (g := (mkF m 126 #[rv b0, rv sa, iv 0, iv 3] [(.ref b0), (.ref b0)])) rfl rfl (hb hby d3_126)
  refine oS (B := T17.setTop (mkF m 129 #[rv b0, rv sa, iv 0, iv 3] [(.int 0), (.ref b0)])) (fun t k => st17 t k) ?_
  refine oS (B := T17.setTop (mkF m 130 #[rv b0, rv sa, iv 0, iv 3] [(.int 3), (.int 0), (.ref b0)])) (fun t k => XS.iloadN X17.here hx rfl (hb hby d3_129) rfl k) ?_
  refine oS (B := T17.setTop (mkF m 131 #[rv b0, rv sa, iv 0, iv 3] [(.int 3), (.ref b0)])) (fun t k => XS.iadd X17.here hx rfl (hb hby d3_130) rfl k) ?_
  obtain ⟨T18, h18, X18, e18, W18, st18⟩ := putF X17 hx hZ hown (host := "") (Or.inl (ow hw 28 rfl)) Via.refl e17 F_lastLength_b0 E_b0 (Or.inl (ow hw 29 rfl)) (ow hw 2 rfl) (ty := .int) (by decide) rfl rfl (g := (mkF m 131 #[rv b0, rv sa, iv 0, iv 3] [(.int 3), (.ref b0)])) rfl rfl (hb hby d3_131)
  have E_b0 := E_b0.wr W18
  have F_full_b0 := F_full_b0.other W18 (Or.inr (slot_ne (Or.inl (ow hw 27 rfl)) (Or.inl (ow hw 29 rfl)) (by decide) (t := (.object "java/util/List")) (t' := .int) (by decide) (by decide)))
  have F_last_b0 := F_last_b0.other W18 (Or.inr (slot_ne (Or.inl (ow hw 13 rfl)) (Or.inl (ow hw 29 rfl)) (by decide) (t := (.array .byte)) (t' := .int) (by decide) (by decide)))
  have F_lastLength_b0 := F_lastLength_b0.same W18
  have F_length_b0 := F_length_b0.other W18 (Or.inr (slot_ne (Or.inl (ow hw 20 rfl)) (Or.inl (ow hw 29 rfl)) (by decide) (t := .int) (t' := .int) (by decide) (by decide)))
  have V_sa := V_sa.other W18 (Ne.symm ne_b0_sa)
  have E_em := E_em.wr W18
  have V_em := V_em.other W18 (ne_exa E_em E_b0 (by decide))
  have V_de := V_de.other W18 (O0.ne BB.2.2.2.2.lt g_b0)
  have E_la := E_la.wr W18
  have V_la := V_la.other W18 (Ne.symm ne_b0_la)
  have Z0 := Nat.le_trans Z0 (Keep.of_wr W18).1
  have K0 := K0.wr W18 (Or.inl (List.mem_of_getElem? (i := 0) rfl))
  have N0 := Fr.snoc X18 N0 g_b0
  have O0 := O0.wr W18 g_b0
  refine oS (B := T18.setTop (mkF m 134 #[rv b0, rv sa, iv 0, iv 3] [])) (fun t k => st18 t k) ?_
  refine oS (B := T18.setTop (mkF m 135 #[rv b0, rv sa, iv 0, iv 3] [(.int 0)])) (fun t k => XS.iloadN X18.here hx rfl (hb hby d3_134) rfl k) ?_
  refine oS (B := T18.setTop (mkF m 136 #[rv b0, rv sa, iv 0, iv 3] [(.int 3), (.int 0)])) (fun t k => XS.iloadN X18.here hx rfl (hb hby d3_135) rfl k) ?_
  refine oS (B := T18.setTop (mkF m 137 #[rv b0, rv sa, iv 0, iv 3] [(.int 3)])) (fun t k => XS.iadd X18.here hx rfl (hb hby d3_136) rfl k) ?_
  refine oS (B := T18.setTop (mkF m 138 #[rv b0, rv sa, iv 3, iv 3] [])) (fun t k => XS.istoreN X18.here hx rfl (hb hby d3_137) rfl (l' := #[rv b0, rv sa, iv 3, iv 3]) rfl k) ?_
  refine oS (B := T18.setTop (mkF m 2 #[rv b0, rv sa, iv 3, iv 3] [])) (fun t k => XS.goto X18.here hx rfl (pc0 := 138) (pc' := 2) rfl (hb hby d3_138) (by decide) (by decide) k) ?_
  refine oS (B := T18.setTop (mkF m 3 #[rv b0, rv sa, iv 3, iv 3] [(.int 3)])) (fun t k => XS.iloadN X18.here hx rfl (hb hby d3_2) rfl k) ?_
  refine oS (B := T18.setTop (mkF m 4 #[rv b0, rv sa, iv 3, iv 3] [(.ref sa), (.int 3)])) (fun t k => XS.aloadN X18.here hx rfl (hb hby d3_3) rfl rfl k) ?_
  have Vo_19 := V_sa
  obtain ⟨cl_19, Ar_19, q_19, S_19, M_19, H_19, G_19⟩ := Vo_19
  refine oS (B := T18.setTop (mkF m 5 #[rv b0, rv sa, iv 3, iv 3] [(.int 3), (.int 3)])) (fun t k => X18.arraylength hx (by rw [e18]; exact Ar_19.1) (State.isArrayOf_alike hZ.alike Ar_19.2.1) (g := (mkF m 4 #[rv b0, rv sa, iv 3, iv 3] [(.ref sa), (.int 3)])) rfl rfl (hb hby d3_4) t (by rw [len_of S_19 M_19]; exact k)) ?_
  refine oS (B := T18.setTop (mkF m 141 #[rv b0, rv sa, iv 3, iv 3] [])) (fun t k => XS.icmpYes X18.here hx rfl (pc0 := 5) (pc' := 141) rfl (hb hby d3_5) rfl (flt (by decide)).2.1 (by decide) (by decide) k) ?_
  refine oS (B := T18.setTop (mkF m 142 #[rv b0, rv sa, iv 3, iv 3] [(.ref b0)])) (fun t k => XS.aloadN X18.here hx rfl (hb hby d3_141) rfl rfl k) ?_
  refine oS (B := T18.setTop (mkF m 143 #[rv b0, rv sa, iv 3, iv 3] [(.ref b0), (.ref b0)])) (fun t k => XS.dup X18.here hx rfl (hb hby d3_142) rfl rfl k) ?_
  obtain ⟨T20, X20, e20, st20⟩ := getF X18 hx hZ hown (host := "") (Or.inl (ow hw 19 rfl)) Via.refl e18 F_length_b0 (g := (mkF m 143 #[rv b0, rv sa, iv 3, iv 3] [(.ref b0), (.ref b0)])) rfl rfl (hb hby d3_143)
  refine oS (B := T20.setTop (mkF m 146 #[rv b0, rv sa, iv 3, iv 3] [(.int 0), (.ref b0)])) (fun t k => st20 t k) ?_
  refine oS (B := T20.setTop (mkF m 147 #[rv b0, rv sa, iv 3, iv 3] [(.ref sa), (.int 0), (.ref b0)])) (fun t k => XS.aloadN X20.here hx rfl (hb hby d3_146) rfl rfl k) ?_
  have Vo_21 := V_sa
  obtain ⟨cl_21, Ar_21, q_21, S_21, M_21, H_21, G_21⟩ := Vo_21
  refine oS (B := T20.setTop (mkF m 148 #[rv b0, rv sa, iv 3, iv 3] [(.int 3), (.int 0), (.ref b0)])) (fun t k => X20.arraylength hx (by rw [e20]; exact Ar_21.1) (State.isArrayOf_alike hZ.alike Ar_21.2.1) (g := (mkF m 147 #[rv b0, rv sa, iv 3, iv 3] [(.ref sa), (.int 0), (.ref b0)])) rfl rfl (hb hby d3_147) t (by rw [len_of S_21 M_21]; exact k)) ?_
  refine oS (B := T20.setTop (mkF m 149 #[rv b0, rv sa, iv 3, iv 3] [(.int 3), (.ref b0)])) (fun t k => XS.iadd X20.here hx rfl (hb hby d3_148) rfl k) ?_
  obtain ⟨T22, h22, X22, e22, W22, st22⟩ := putF X20 hx hZ hown (host := "") (Or.inl (ow hw 19 rfl)) Via.refl e20 F_length_b0 E_b0 (Or.inl (ow hw 20 rfl)) (ow hw 2 rfl) (ty := .int) (by decide) rfl rfl (g := (mkF m 149 #[rv b0, rv sa, iv 3, iv 3] [(.int 3), (.ref b0)])) rfl rfl (hb hby d3_149)
  have E_b0 := E_b0.wr W22
  have F_full_b0 := F_full_b0.other W22 (Or.inr (slot_ne (Or.inl (ow hw 27 rfl)) (Or.inl (ow hw 20 rfl)) (by decide) (t := (.object "java/util/List")) (t' := .int) (by decide) (by decide)))
  have F_last_b0 := F_last_b0.other W22 (Or.inr (slot_ne (Or.inl (ow hw 13 rfl)) (Or.inl (ow hw 20 rfl)) (by decide) (t := (.array .byte)) (t' := .int) (by decide) (by decide)))
  have F_lastLength_b0 := F_lastLength_b0.other W22 (Or.inr (slot_ne (Or.inl (ow hw 29 rfl)) (Or.inl (ow hw 20 rfl)) (by decide) (t := .int) (t' := .int) (by decide) (by decide)))
  have F_length_b0 := F_length_b0.same W22
  have V_sa := V_sa.other W22 (Ne.symm ne_b0_sa)
  have E_em := E_em.wr W22
  have V_em := V_em.other W22 (ne_exa E_em E_b0 (by decide))
  have V_de := V_de.other W22 (O0.ne BB.2.2.2.2.lt g_b0)
  have E_la := E_la.wr W22
  have V_la := V_la.other W22 (Ne.symm ne_b0_la)
  have Z0 := Nat.le_trans Z0 (Keep.of_wr W22).1
  have K0 := K0.wr W22 (Or.inl (List.mem_of_getElem? (i := 0) rfl))
  have N0 := Fr.snoc X22 N0 g_b0
  have O0 := O0.wr W22 g_b0
  refine oS (B := T22.setTop (mkF m 152 #[rv b0, rv sa, iv 3, iv 3] [])) (fun t k => st22 t k) ?_
  exact own_retV X22 hx hlk Bd.returns (hb hby d3_152) (by decide) (by decide) (by rw [e22]; exact ⟨_, _, _, rfl, N0, K0, F_full_b0, F_last_b0, F_lastLength_b0, F_length_b0, g_la, sz_la, E_la, V_la, fun i hi => (own_take _ _ 3 (.int 0) _ _ rfl i hi).trans (by show vs.getD (0 + i) _ = _; rw [Nat.zero_add])⟩)
theorem rma (l : Launch) (Z : State) (a0 : Array Value) (hw : ∀ d ∈ tables_1, d.before a0 Z = true) (ws : List Jvm.Cond) (b0 : Addr) (sa : Addr) (em : Addr) (ke : ClassId) (de : Addr) (kd : ClassId) (ks : ClassId) (vs : List Value) (nn : Int32) (h0 : Heap) (n0 : Nat) (Z0 : n0 ≤ h0.size) (E_b0 : Exa Z h0 b0 "com/example/loomwire/loomwire/transport/MessageBuffer") (g_b0 : n0 ≤ b0) (F_full_b0 : Fld Z h0 b0 "com/example/loomwire/loomwire/transport/MessageBuffer" "full" "Ljava/util/List;" .null) (F_last_b0 : Fld Z h0 b0 "com/example/loomwire/loomwire/transport/MessageBuffer" "last" "[B" (.ref em)) (F_lastLength_b0 : Fld Z h0 b0 "com/example/loomwire/loomwire/transport/MessageBuffer" "lastLength" "I" (.int 0)) (F_length_b0 : Fld Z h0 b0 "com/example/loomwire/loomwire/transport/MessageBuffer" "length" "I" (.int 0)) (BB : own_Base Z em ke de kd) (O0 : Old Z n0 h0) (ne_b0_sa : b0 ≠ sa) (hn : nn = (0 : Int32) ∨ nn = (1 : Int32) ∨ nn = (2 : Int32) ∨ nn = (3 : Int32) ∨ nn = (4 : Int32) ∨ nn = (5 : Int32) ∨ nn = (6 : Int32) ∨ nn = (7 : Int32) ∨ nn = (65537 : Int32) ∨ nn = (65538 : Int32)) (V_sa : Arv Z h0 sa ks .byte nn vs (.int 0)) :
    MetFree l (⟨"com/example/loomwire/loomwire/transport/MessageBuffer", "append", "([B)V"⟩ : MethodName) (head1 (Jvm.Cond.code (⟨"com/example/loomwire/loomwire/transport/MessageBuffer", "append", "([B)V"⟩ : MethodName) prog_102_method_4_code 4 none :: ws) ({ frames := 5, cells := 4, slots := 65551, locals := 80 } : Room)) (fun a U => a = #[(.ref b0), (.ref sa)] ∧ Z.Warmed39 U.vm ∧ U.heap = h0) (fun _ _ _ _ _ => True) (fun _ U o U' => ∃ v L, o = .returned v ∧ (QQ_rma_0 Z b0 sa em ke de kd ks vs h0 n0) v U'.heap L ∧ FrameEnd U o U' L ({ frames := 5, cells := 4, slots := 65551, locals := 80 } : Room).cells ({ frames := 5, cells := 4, slots := 65551, locals := 80 } : Room).slots) := by
  rcases hn with rfl | rfl | rfl | rfl | rfl | rfl | rfl | rfl | rfl | rfl
  · exact rma_0 l Z a0 hw ws b0 sa em ke de kd ks vs h0 n0 Z0 E_b0 g_b0 F_full_b0 F_last_b0 F_lastLength_b0 F_length_b0 BB O0 ne_b0_sa V_sa
  · exact rma_1 l Z a0 hw ws b0 sa em ke de kd ks vs h0 n0 Z0 E_b0 g_b0 F_full_b0 F_last_b0 F_lastLength_b0 F_length_b0 BB O0 ne_b0_sa V_sa
  · exact rma_2 l Z a0 hw ws b0 sa em ke de kd ks vs h0 n0 Z0 E_b0 g_b0 F_full_b0 F_last_b0 F_lastLength_b0 F_length_b0 BB O0 ne_b0_sa V_sa
  · exact rma_3 l Z a0 hw ws b0 sa em ke de kd ks vs h0 n0 Z0 E_b0 g_b0 F_full_b0 F_last_b0 F_lastLength_b0 F_length_b0 BB O0 ne_b0_sa V_sa
  · exact rma_4 l Z a0 hw ws b0 sa em ke de kd ks vs h0 n0 Z0 E_b0 g_b0 F_full_b0 F_last_b0 F_lastLength_b0 F_length_b0 BB O0 ne_b0_sa V_sa
  · exact rma_5 l Z a0 hw ws b0 sa em ke de kd ks vs h0 n0 Z0 E_b0 g_b0 F_full_b0 F_last_b0 F_lastLength_b0 F_length_b0 BB O0 ne_b0_sa V_sa
  · exact rma_6 l Z a0 hw ws b0 sa em ke de kd ks vs h0 n0 Z0 E_b0 g_b0 F_full_b0 F_last_b0 F_lastLength_b0 F_length_b0 BB O0 ne_b0_sa V_sa
  · exact rma_7 l Z a0 hw ws b0 sa em ke de kd ks vs h0 n0 Z0 E_b0 g_b0 F_full_b0 F_last_b0 F_lastLength_b0 F_length_b0 BB O0 ne_b0_sa V_sa
  · exact rma_65537 l Z a0 hw ws b0 sa em ke de kd ks vs h0 n0 Z0 E_b0 g_b0 F_full_b0 F_last_b0 F_lastLength_b0 F_length_b0 BB O0 ne_b0_sa V_sa
  · exact rma_65538 l Z a0 hw ws b0 sa em ke de kd ks vs h0 n0 Z0 E_b0 g_b0 F_full_b0 F_last_b0 F_lastLength_b0 F_length_b0 BB O0 ne_b0_sa V_sa
theorem d6_0 : decode prog_102_method_6_code 0 = .ok (.aload_n 0, 1) := by decide +kernel
theorem d6_1 : decode prog_102_method_6_code 1 = .ok (.getfield 30, 3) := by decide +kernel
theorem d6_4 : decode prog_102_method_6_code 4 = .ok (.ifnonnull 15, 3) := by decide +kernel
theorem d6_7 : decode prog_102_method_6_code 7 = .ok (.aload_n 0, 1) := by decide +kernel
theorem d6_8 : decode prog_102_method_6_code 8 = .ok (.getfield 13, 3) := by decide +kernel
theorem d6_11 : decode prog_102_method_6_code 11 = .ok (.aload_n 0, 1) := by decide +kernel
theorem d6_12 : decode prog_102_method_6_code 12 = .ok (.getfield 26, 3) := by decide +kernel
theorem d6_15 : decode prog_102_method_6_code 15 = .ok (.invokestatic 49, 3) := by decide +kernel
theorem d6_18 : decode prog_102_method_6_code 18 = .ok (.areturn, 1) := by decide +kernel
theorem ef_rmta (m : MethodId) (x0 : Addr) : entryFrame m #[(.ref x0)] 5 = mkF m 0 #[rv x0, .unset, .unset, .unset, .unset] [] := by first | (simp [entryFrame, mkF, argsToLocals, Value.category]; done) | rfl
def QQ_rmta (Z : State) (b0 : Addr) (sa : Addr) (ks : ClassId) (vs : List Value) (nn : Int32) (h0 : Heap) (n0 : Nat) (v : Option Value) (h : Heap) (L : List Loc) : Prop := ∃ (b : Addr) (kb : ClassId) (vb : List Value), v = some (.ref b) ∧ Fr n0 L ∧ Keep h0 h [] ∧ n0 ≤ b ∧ h0.size ≤ b ∧ Arv Z h b kb .byte nn vb (.int 0) ∧ ∀ i, i < 3 → vb.getD i (.int 0) = vs.getD i (.int 0)
set_option maxRecDepth 65536 in
set_option maxHeartbeats 40000000 in
theorem rmta (l : Launch) (Z : State) (a0 : Array Value) (hw : ∀ d ∈ tables_1, d.before a0 Z = true) (ws : List Jvm.Cond) (b0 : Addr) (sa : Addr) (ks : ClassId) (vs : List Value) (nn : Int32) (h0 : Heap) (n0 : Nat) (Z0 : n0 ≤ h0.size) (F_full_b0 : Fld Z h0 b0 "com/example/loomwire/loomwire/transport/MessageBuffer" "full" "Ljava/util/List;" .null) (F_last_b0 : Fld Z h0 b0 "com/example/loomwire/loomwire/transport/MessageBuffer" "last" "[B" (.ref sa)) (F_lastLength_b0 : Fld Z h0 b0 "com/example/loomwire/loomwire/transport/MessageBuffer" "lastLength" "I" (.int nn)) (E_sa : Exa Z h0 sa "[B") (V_sa : Arv Z h0 sa ks .byte nn vs (.int 0)) (hn : (nn).toNatClampNeg ≤ 2) :
    MetFree l (⟨"com/example/loomwire/loomwire/transport/MessageBuffer", "toArray", "()[B"⟩ : MethodName) (head1 (Jvm.Cond.code (⟨"com/example/loomwire/loomwire/transport/MessageBuffer", "toArray", "()[B"⟩ : MethodName) prog_102_method_6_code 5 (some (.array .byte)) :: ws) ({ frames := 2, cells := 1, slots := 3, locals := 80 } : Room)) (fun a U => a = #[(.ref b0)] ∧ Z.Warmed39 U.vm ∧ U.heap = h0) (fun _ _ _ _ _ => True) (fun _ U o U' => ∃ v L, o = .returned v ∧ (QQ_rmta Z b0 sa ks vs nn h0 n0) v U'.heap L ∧ FrameEnd U o U' L ({ frames := 2, cells := 1, slots := 3, locals := 80 } : Room).cells ({ frames := 2, cells := 1, slots := 3, locals := 80 } : Room).slots) := by
  refine MetFree.of_bodySF (plainFor_of_name pn_com_example_loomwire_loomwire_transport_MessageBuffer) hisR ?_
  intro p e s m args below meth c s₁ Bd hml0 hP hK
  obtain ⟨rfl, hZ, hh⟩ := hP
  have hx := Bd.exec
  have hby := Bd.bytes
  have hlk : meth.locks = false := BodyLoose.notSynchronized Bd
  have hml : c.maxLocals = 5 := hml0
  have hown : s.vm.findClass "com/example/loomwire/loomwire/transport/MessageBuffer" = some m.cls := findClass_of_methodNamed Bd.named
  have hnm := (name_of_methodNamed Bd.named Bd.method).1
  have X0 : Stand p l e ({ frames := 2, cells := 1, slots := 3, locals := 80 } : Room) s m #[(.ref b0)] below meth c s₁ [] 0 0 := Stand.of_body Bd
  have e0 : s₁.heap = h0 := by rw [← hh, Bd.state]; rfl
  have N0 := Fr.nil n0
  show own_G p.tables e below s (QQ_rmta Z b0 sa ks vs nn h0 n0) ({ frames := 2, cells := 1, slots := 3, locals := 80 } : Room).cells ({ frames := 2, cells := 1, slots := 3, locals := 80 } : Room).slots (s₁.setTop (entryFrame m #[(.ref b0)] 5))
  refine oS (B := s₁.setTop (mkF m 0 #[rv b0, .unset, .unset, .unset, .unset] [])) (fun t k => castTop (ef_rmta m b0) k) ?_
  have K0 := Keep.refl h0 []
  refine oS (B := s₁.setTop (mkF m 1 #[rv b0, .unset, .unset, .unset, .unset] [(.ref b0)])) (fun t k => XS.aloadN X0.here hx rfl (hb hby d6_0) rfl rfl k) ?_
  obtain ⟨T1, X1, e1, st1⟩ := getF X0 hx hZ hown (host := "") (Or.inl (ow hw 26 rfl)) Via.refl e0 F_full_b0 (g := (mkF m 1 #[rv b0, .unset, .unset, .unset, .unset] [(.ref b0)])) rfl rfl (hb hby d6_1)
  refine oS (B := T1.setTop (mkF m 4 #[rv b0, .unset, .unset, .unset, .unset] [.null])) (fun t k => st1 t k) ?_
  refine oS (B := T1.setTop (mkF m 7 #[rv b0, .unset, .unset, .unset, .unset] [])) (fun t k => XS.ifnonnullNo X1.here hx rfl (hb hby d6_4) rfl k) ?_
  refine oS (B := T1.setTop (mkF m 8 #[rv b0, .unset, .unset, .unset, .unset] [(.ref b0)])) (fun t k => XS.aloadN X1.here hx rfl (hb hby d6_7) rfl rfl k) ?_
  obtain ⟨T2, X2, e2, st2⟩ := getF X1 hx hZ hown (host := "") (Or.inl (ow hw 12 rfl)) Via.refl e1 F_last_b0 (g := (mkF m 8 #[rv b0, .unset, .unset, .unset, .unset] [(.ref b0)])) rfl rfl (hb hby d6_8)
  refine oS (B := T2.setTop (mkF m 11 #[rv b0, .unset, .unset, .unset, .unset] [(.ref sa)])) (fun t k => st2 t k) ?_
  refine oS (B := T2.setTop (mkF m 12 #[rv b0, .unset, .unset, .unset, .unset] [(.ref b0), (.ref sa)])) (fun t k => XS.aloadN X2.here hx rfl (hb hby d6_11) rfl rfl k) ?_
  obtain ⟨T3, X3, e3, st3⟩ := getF X2 hx hZ hown (host := "") (Or.inl (ow hw 28 rfl)) Via.refl e2 F_lastLength_b0 (g := (mkF m 12 #[rv b0, .unset, .unset, .unset, .unset] [(.ref b0), (.ref sa)])) rfl rfl (hb hby d6_12)
  refine oS (B := T3.setTop (mkF m 15 #[rv b0, .unset, .unset, .unset, .unset] [(.int nn), (.ref sa)])) (fun t k => st3 t k) ?_
  obtain ⟨_, _, ⟨T4, L4, k4, n4⟩, -, X4, ⟨Lc4, hQ4, l4, y4, z4⟩, st4⟩ := Jvm.LawKit.callS X3 hx (y := (⟨"java/util/Arrays", "copyOf", "([BI)[B"⟩ : MethodName)) hown (mvT hZ (ow hw 40 rfl)) (mvT hZ (ow hw 41 rfl)) (mvT hZ (ow hw 42 rfl)) (mvT hZ (ow hw 43 rfl)) (by decide) (backOf (W := 0) (rmc l Z a0 hw [] sa nn _ _ h0 n0 Z0 E_sa V_sa hn) hZ (ow hw 43 rfl) (ow hw 42 rfl) (by decide) (by decide)) (g := (mkF m 15 #[rv b0, .unset, .unset, .unset, .unset] [(.int nn), (.ref sa)])) rfl (by rw [hml]; rfl) (argsL := [(.ref sa), (.int nn)]) (rest := []) (lenOf pd_6 rfl) rfl (by show 2 * 0 + _ ≤ _; exact Nat.le_of_eq rfl) (hb hby d6_15) (fun _ _ => ⟨rfl, e3, (by decide : 0 + 1 ≤ _), (by decide : 0 + 2 ≤ _)⟩)
  dsimp only [Pt.U, Pt.locs, Pt.cells, Pt.slots] at X4 l4 y4 z4 st4 hQ4
  subst l4 y4 z4
  obtain ⟨r, rfl, N4q, K4, g_r, sz_r, V_r⟩ := hQ4
  have N0 := Fr.app N0 N4q
  have F_full_b0 := F_full_b0.keep K4 nin0
  have F_last_b0 := F_last_b0.keep K4 nin0
  have F_lastLength_b0 := F_lastLength_b0.keep K4 nin0
  have Z0 := Nat.le_trans Z0 K4.1
  have K0 := K0.trans K4 all0
  refine oS (B := T4.setTop (mkF m 18 #[rv b0, .unset, .unset, .unset, .unset] [(.ref r)])) (fun t k => st4 t k) ?_
  exact own_retA X4 hx hlk Bd.returns (hb hby d6_18) rfl (by decide) (by decide) (by exact ⟨_, _, _, rfl, N0, K0, g_r, sz_r, V_r, fun _ _ => rfl⟩)
theorem ef_rmtt (m : MethodId) (x0 : Addr) : entryFrame m #[(.ref x0)] 5 = mkF m 0 #[rv x0, .unset, .unset, .unset, .unset] [] := by first | (simp [entryFrame, mkF, argsToLocals, Value.category]; done) | rfl
def QQ_rmtt (Z : State) (b0 : Addr) (sa : Addr) (ks : ClassId) (vs : List Value) (h0 : Heap) (n0 : Nat) (v : Option Value) (h : Heap) (L : List Loc) : Prop := ∃ (b : Addr) (kb : ClassId) (vb : List Value), v = some (.ref b) ∧ Fr n0 L ∧ Keep h0 h [] ∧ n0 ≤ b ∧ h0.size ≤ b ∧ Arv Z h b kb .byte (3 : Int32) vb (.int 0) ∧ ∀ i, i < 3 → vb.getD i (.int 0) = vs.getD i (.int 0)
set_option maxRecDepth 65536 in
set_option maxHeartbeats 40000000 in
theorem rmtt (l : Launch) (Z : State) (a0 : Array Value) (hw : ∀ d ∈ tables_1, d.before a0 Z = true) (ws : List Jvm.Cond) (b0 : Addr) (sa : Addr) (ks : ClassId) (vs : List Value) (h0 : Heap) (n0 : Nat) (Z0 : n0 ≤ h0.size) (F_full_b0 : Fld Z h0 b0 "com/example/loomwire/loomwire/transport/MessageBuffer" "full" "Ljava/util/List;" .null) (F_last_b0 : Fld Z h0 b0 "com/example/loomwire/loomwire/transport/MessageBuffer" "last" "[B" (.ref sa)) (F_lastLength_b0 : Fld Z h0 b0 "com/example/loomwire/loomwire/transport/MessageBuffer" "lastLength" "I" (.int 3)) (E_sa : Exa Z h0 sa "[B") (V_sa : Arv Z h0 sa ks .byte (4 : Int32) vs (.int 0)) :
    MetFree l (⟨"com/example/loomwire/loomwire/transport/MessageBuffer", "toArray", "()[B"⟩ : MethodName) (head1 (Jvm.Cond.code (⟨"com/example/loomwire/loomwire/transport/MessageBuffer", "toArray", "()[B"⟩ : MethodName) prog_102_method_6_code 5 (some (.array .byte)) :: ws) ({ frames := 2, cells := 1, slots := 3, locals := 80 } : Room)) (fun a U => a = #[(.ref b0)] ∧ Z.Warmed39 U.vm ∧ U.heap = h0) (fun _ _ _ _ _ => True) (fun _ U o U' => ∃ v L, o = .returned v ∧ (QQ_rmtt Z b0 sa ks vs h0 n0) v U'.heap L ∧ FrameEnd U o U' L ({ frames := 2, cells := 1, slots := 3, locals := 80 } : Room).cells ({ frames := 2, cells := 1, slots := 3, locals := 80 } : Room).slots) := by
  refine MetFree.of_bodySF (plainFor_of_name pn_com_example_loomwire_loomwire_transport_MessageBuffer) hisR ?_
  intro p e s m args below meth c s₁ Bd hml0 hP hK
  obtain ⟨rfl, hZ, hh⟩ := hP
  have hx := Bd.exec
  have hby := Bd.bytes
  have hlk : meth.locks = false := BodyLoose.notSynchronized Bd
  have hml : c.maxLocals = 5 := hml0
  have hown : s.vm.findClass "com/example/loomwire/loomwire/transport/MessageBuffer" = some m.cls := findClass_of_methodNamed Bd.named
  have hnm := (name_of_methodNamed Bd.named Bd.method).1
  have X0 : Stand p l e ({ frames := 2, cells := 1, slots := 3, locals := 80 } : Room) s m #[(.ref b0)] below meth c s₁ [] 0 0 := Stand.of_body Bd
  have e0 : s₁.heap = h0 := by rw [← hh, Bd.state]; rfl
  have N0 := Fr.nil n0
  show own_G p.tables e below s (QQ_rmtt Z b0 sa ks vs h0 n0) ({ frames := 2, cells := 1, slots := 3, locals := 80 } : Room).cells ({ frames := 2, cells := 1, slots := 3, locals := 80 } : Room).slots (s₁.setTop (entryFrame m #[(.ref b0)] 5))
  refine oS (B := s₁.setTop (mkF m 0 #[rv b0, .unset, .unset, .unset, .unset] [])) (fun t k => castTop (ef_rmtt m b0) k) ?_
  have K0 := Keep.refl h0 []
  refine oS (B := s₁.setTop (mkF m 1 #[rv b0, .unset, .unset, .unset, .unset] [(.ref b0)])) (fun t k => XS.aloadN X0.here hx rfl (hb hby d6_0) rfl rfl k) ?_
  obtain ⟨T1, X1, e1, st1⟩ := getF X0 hx hZ hown (host := "") (Or.inl (ow hw 26 rfl)) Via.refl e0 F_full_b0 (g := (mkF m 1 #[rv b0, .unset, .unset, .unset, .unset] [(.ref b0)])) rfl rfl (hb hby d6_1)
  refine oS (B := T1.setTop (mkF m 4 #[rv b0, .unset, .unset, .unset, .unset] [.null])) (fun t k => st1 t k) ?_
  refine oS (B := T1.setTop (mkF m 7 #[rv b0, .unset, .unset, .unset, .unset] [])) (fun t k => XS.ifnonnullNo X1.here hx rfl (hb hby d6_4) rfl k) ?_
  refine oS (B := T1.setTop (mkF m 8 #[rv b0, .unset, .unset, .unset, .unset] [(.ref b0)])) (fun t k => XS.aloadN X1.here hx rfl (hb hby d6_7) rfl rfl k) ?_
  obtain ⟨T2, X2, e2, st2⟩ := getF X1 hx hZ hown (host := "") (Or.inl (ow hw 12 rfl)) Via.refl e1 F_last_b0 (g := (mkF m 8 #[rv b0, .unset, .unset, .unset, .unset] [(.ref b0)])) rfl rfl (hb hby d6_8)
  refine oS (B := T2.setTop (mkF m 11 #[rv b0, .unset, .unset, .unset, .unset] [(.ref sa)])) (fun t k => st2 t k) ?_
  refine oS (B := T2.setTop (mkF m 12 #[rv b0, .unset, .unset, .unset, .unset] [(.ref b0), (.ref sa)])) (fun t k => XS.aloadN X2.here hx rfl (hb hby d6_11) rfl rfl k) ?_
  obtain ⟨T3, X3, e3, st3⟩ := getF X2 hx hZ hown (host := "") (Or.inl (ow hw 28 rfl)) Via.refl e2 F_lastLength_b0 (g := (mkF m 12 #[rv b0, .unset, .unset, .unset, .unset] [(.ref b0), (.ref sa)])) rfl rfl (hb hby d6_12)
  refine oS (B := T3.setTop (mkF m 15 #[rv b0, .unset, .unset, .unset, .unset] [(.int 3), (.ref sa)])) (fun t k => st3 t k) ?_
  obtain ⟨_, _, ⟨T4, L4, k4, n4⟩, -, X4, ⟨Lc4, hQ4, l4, y4, z4⟩, st4⟩ := Jvm.LawKit.callS X3 hx (y := (⟨"java/util/Arrays", "copyOf", "([BI)[B"⟩ : MethodName)) hown (mvT hZ (ow hw 40 rfl)) (mvT hZ (ow hw 41 rfl)) (mvT hZ (ow hw 42 rfl)) (mvT hZ (ow hw 43 rfl)) (by decide) (backOf (W := 0) (rmt l Z a0 hw [] sa _ _ h0 n0 Z0 V_sa) hZ (ow hw 43 rfl) (ow hw 42 rfl) (by decide) (by decide)) (g := (mkF m 15 #[rv b0, .unset, .unset, .unset, .unset] [(.int 3), (.ref sa)])) rfl (by rw [hml]; rfl) (argsL := [(.ref sa), (.int 3)]) (rest := []) (lenOf pd_6 rfl) rfl (by show 2 * 0 + _ ≤ _; exact Nat.le_of_eq rfl) (hb hby d6_15) (fun _ _ => ⟨rfl, e3, (by decide : 0 + 1 ≤ _), (by decide : 0 + 3 ≤ _)⟩)
  dsimp only [Pt.U, Pt.locs, Pt.cells, Pt.slots] at X4 l4 y4 z4 st4 hQ4
  subst l4 y4 z4
  obtain ⟨r, kr, vr, rfl, N4q, K4, g_r, sz_r, V_r, hv_r⟩ := hQ4
  have N0 := Fr.app N0 N4q
  have F_full_b0 := F_full_b0.keep K4 nin0
  have F_last_b0 := F_last_b0.keep K4 nin0
  have F_lastLength_b0 := F_lastLength_b0.keep K4 nin0
  have Z0 := Nat.le_trans Z0 K4.1
  have K0 := K0.trans K4 all0
  refine oS (B := T4.setTop (mkF m 18 #[rv b0, .unset, .unset, .unset, .unset] [(.ref r)])) (fun t k => st4 t k) ?_
  exact own_retA X4 hx hlk Bd.returns (hb hby d6_18) rfl (by decide) (by decide) (by exact ⟨_, _, _, rfl, N0, K0, g_r, sz_r, V_r, hv_r⟩)
theorem own_and3 (x : Int32) : x &&& 3 = 0 ∨ x &&& 3 = 1 ∨ x &&& 3 = 2 ∨ x &&& 3 = 3 := by
  have m := c_mask x 3 2 (by decide) (by decide)
  simp only [← Int32.toInt_inj, Int32.reduceToInt]
  omega
theorem own_n1 (y z bg : Int32) : (if bg = 0 then y &&& 7 else 65537 + (z &&& 1)) = (0 : Int32) ∨ (if bg = 0 then y &&& 7 else 65537 + (z &&& 1)) = (1 : Int32) ∨ (if bg = 0 then y &&& 7 else 65537 + (z &&& 1)) = (2 : Int32) ∨ (if bg = 0 then y &&& 7 else 65537 + (z &&& 1)) = (3 : Int32) ∨ (if bg = 0 then y &&& 7 else 65537 + (z &&& 1)) = (4 : Int32) ∨ (if bg = 0 then y &&& 7 else 65537 + (z &&& 1)) = (5 : Int32) ∨ (if bg = 0 then y &&& 7 else 65537 + (z &&& 1)) = (6 : Int32) ∨ (if bg = 0 then y &&& 7 else 65537 + (z &&& 1)) = (7 : Int32) ∨ (if bg = 0 then y &&& 7 else 65537 + (z &&& 1)) = (65537 : Int32) ∨ (if bg = 0 then y &&& 7 else 65537 + (z &&& 1)) = (65538 : Int32) := by
  by_cases h : bg = 0
  · have m := c_mask y 7 3 (by decide) (by decide)
    simp only [if_pos h]
    simp only [← Int32.toInt_inj, Int32.reduceToInt]
    omega
  · simp only [if_neg h]
    rcases and_one z with q | q <;> rw [q] <;> decide
def own_N (n : Int32) : Prop := n = (0 : Int32) ∨ n = (1 : Int32) ∨ n = (2 : Int32) ∨ n = (3 : Int32) ∨ n = (4 : Int32) ∨ n = (5 : Int32) ∨ n = (6 : Int32) ∨ n = (7 : Int32) ∨ n = (65537 : Int32) ∨ n = (65538 : Int32)
theorem own_n1neg {n : Int32} (h : own_N n) : ¬ n < 0 := by
  rcases h with rfl | rfl | rfl | rfl | rfl | rfl | rfl | rfl | rfl | rfl <;> decide
theorem own_n1le {n : Int32} (h : own_N n) : n.toNatClampNeg ≤ 65538 := by
  rcases h with rfl | rfl | rfl | rfl | rfl | rfl | rfl | rfl | rfl | rfl <;> decide
theorem own_i00 {n : Int32} (_ : own_N n) (_ : (0 : Int32) < n) : ¬ (0 : Int32) < 0 := by decide
theorem own_i01 {n : Int32} (_ : own_N n) (h : (0 : Int32) < n) : (0 : Int32) < n := h
theorem own_i10 {n : Int32} (h : own_N n) (q : (0 : Int32) < n) : ¬ (n - (1 : Int32)) < 0 := by
  rcases h with rfl | rfl | rfl | rfl | rfl | rfl | rfl | rfl | rfl | rfl <;> first | exact absurd q (by decide) | decide
theorem own_i11 {n : Int32} (h : own_N n) (q : (0 : Int32) < n) : (n - (1 : Int32)) < n := by
  rcases h with rfl | rfl | rfl | rfl | rfl | rfl | rfl | rfl | rfl | rfl <;> first | exact absurd q (by decide) | decide

theorem pn_com_example_loomwire_loomwire_transport_MessageBufferClearPinLaw : plainName "com/example/loomwire/loomwire/transport/MessageBufferClearPinLaw" = true := by first | (simp [plainName, overriddenIn]; done) | decide +kernel
theorem ef_rm0 (m : MethodId) (x0 : Int32) (x1 : Int32) (x2 : Int32) (x3 : Int32) (x4 : Int32) : entryFrame m #[(.int x0), (.int x1), (.int x2), (.int x3), (.int x4)] maxLocals = mkF m 0 #[iv x0, iv x1, iv x2, iv x3, iv x4, .unset, .unset, .unset, .unset, .unset, .unset, .unset, .unset, .unset] [] := by first | (simp [entryFrame, mkF, argsToLocals, Value.category, maxLocals]; done) | rfl
def QQ_rm0 (Z : State) (p0 : Int32) (p1 : Int32) (p2 : Int32) (p3 : Int32) (p4 : Int32) (em : Addr) (ke : ClassId) (de : Addr) (kd : ClassId) (h0 : Heap) (n0 : Nat) (v : Option Value) (h : Heap) (L : List Loc) : Prop := v = some (.int 1) ∧ Fr n0 L
set_option maxRecDepth 65536 in
set_option maxHeartbeats 40000000 in
theorem rm0 (l : Launch) (Z : State) (a0 : Array Value) (hw : ∀ d ∈ tables_1, d.before a0 Z = true) (ws : List Jvm.Cond) (p0 : Int32) (p1 : Int32) (p2 : Int32) (p3 : Int32) (p4 : Int32) (em : Addr) (ke : ClassId) (de : Addr) (kd : ClassId) (h0 : Heap) (n0 : Nat) (Z0 : n0 ≤ h0.size) (BB : own_Base Z em ke de kd) (O0 : Old Z n0 h0) :
    MetFree l x (head1 (Jvm.Cond.code x code maxLocals ret :: ws) room_1) (fun a U => a = #[(.int p0), (.int p1), (.int p2), (.int p3), (.int p4)] ∧ Z.Warmed39 U.vm ∧ U.heap = h0) (fun _ _ _ _ _ => True) (fun _ U o U' => ∃ v L, o = .returned v ∧ (QQ_rm0 Z p0 p1 p2 p3 p4 em ke de kd h0 n0) v U'.heap L ∧ FrameEnd U o U' L room_1.cells room_1.slots) := by
  refine MetFree.of_bodySF (plainFor_of_name pn_com_example_loomwire_loomwire_transport_MessageBufferClearPinLaw) hisR ?_
  intro p e s m args below meth c s₁ Bd hml0 hP hK
  obtain ⟨rfl, hZ, hh⟩ := hP
  have hx := Bd.exec
  have hby := Bd.bytes
  have hlk : meth.locks = false := BodyLoose.notSynchronized Bd
  have hml : c.maxLocals = 14 := hml0
  have hown : s.vm.findClass "com/example/loomwire/loomwire/transport/MessageBufferClearPinLaw" = some m.cls := findClass_of_methodNamed Bd.named
  have hnm := (name_of_methodNamed Bd.named Bd.method).1
  have X0 : Stand p l e room_1 s m #[(.int p0), (.int p1), (.int p2), (.int p3), (.int p4)] below meth c s₁ [] 0 0 := Stand.of_body Bd
  have e0 : s₁.heap = h0 := by rw [← hh, Bd.state]; rfl
  have N0 := Fr.nil n0
  show own_G p.tables e below s (QQ_rm0 Z p0 p1 p2 p3 p4 em ke de kd h0 n0) room_1.cells room_1.slots (s₁.setTop (entryFrame m #[(.int p0), (.int p1), (.int p2), (.int p3), (.int p4)] maxLocals))
  refine oS (B := s₁.setTop (mkF m 0 #[iv p0, iv p1, iv p2, iv p3, iv p4, .unset, .unset, .unset, .unset, .unset, .unset, .unset, .unset, .unset] [])) (fun t k => castTop (ef_rm0 m p0 p1 p2 p3 p4) k) ?_
  have V_em := BB.2.2.1.ext O0.2
  have E_em := BB.2.1.ext O0.2
  have V_de := BB.2.2.2.2.ext O0.2
  refine oS (B := s₁.setTop (mkF m 1 #[iv p0, iv p1, iv p2, iv p3, iv p4, .unset, .unset, .unset, .unset, .unset, .unset, .unset, .unset, .unset] [(.int p0)])) (fun t k => XS.iloadN X0.here hx rfl (hb hby at_0) rfl k) ?_
  refine oS (B := s₁.setTop (mkF m 2 #[iv p0, iv p1, iv p2, iv p3, iv p4, .unset, .unset, .unset, .unset, .unset, .unset, .unset, .unset, .unset] [(.int 1), (.int p0)])) (fun t k => XS.iconst X0.here hx rfl (hb hby at_1) k) ?_
  refine oS (B := s₁.setTop (mkF m 3 #[iv p0, iv p1, iv p2, iv p3, iv p4, .unset, .unset, .unset, .unset, .unset, .unset, .unset, .unset, .unset] [(.int (p0 &&& (1 : Int32)))])) (fun t k => XS.iand X0.here hx rfl (hb hby at_2) rfl k) ?_
  have J1 : (∀ (T' : State) (ls' : List Loc), Stand p l e room_1 s m #[(.int p0), (.int p1), (.int p2), (.int p3), (.int p4)] below meth c T' ls' 0 0 → T'.heap = h0 → Fr n0 ls' → own_G p.tables e below s (QQ_rm0 Z p0 p1 p2 p3 p4 em ke de kd h0 n0) room_1.cells room_1.slots (T'.setTop (mkF m 11 #[iv p0, iv p1, iv p2, iv p3, iv p4, .unset, .unset, .unset, .unset, .unset, .unset, .unset, .unset, .unset] [(.int (if (p0 &&& (1 : Int32)) = (0 : Int32) then (0 : Int32) else (1 : Int32)))]))) → own_G p.tables e below s (QQ_rm0 Z p0 p1 p2 p3 p4 em ke de kd h0 n0) room_1.cells room_1.slots (s₁.setTop (mkF m 3 #[iv p0, iv p1, iv p2, iv p3, iv p4, .unset, .unset, .unset, .unset, .unset, .unset, .unset, .unset, .unset] [(.int (p0 &&& (1 : Int32)))])) := by
    intro hJ
    by_cases hc3 : (p0 &&& (1 : Int32)) = (0 : Int32)
    · skip
      refine oS (B := s₁.setTop (mkF m 10 #[iv p0, iv p1, iv p2, iv p3, iv p4, .unset, .unset, .unset, .unset, .unset, .unset, .unset, .unset, .unset] [])) (fun t k => XS.ifYes X0.here hx rfl (pc0 := 3) (pc' := 10) rfl (hb hby at_3) rfl ((if0 _ _).trans (teq hc3).1) (by decide) (by decide) k) ?_
      refine oS (B := s₁.setTop (mkF m 11 #[iv p0, iv p1, iv p2, iv p3, iv p4, .unset, .unset, .unset, .unset, .unset, .unset, .unset, .unset, .unset] [(.int 0)])) (fun t k => XS.iconst X0.here hx rfl (hb hby at_10) k) ?_
      try simp only [if_pos hc3] at hJ
      exact hJ _ _ X0 e0 N0
    · skip
      refine oS (B := s₁.setTop (mkF m 6 #[iv p0, iv p1, iv p2, iv p3, iv p4, .unset, .unset, .unset, .unset, .unset, .unset, .unset, .unset, .unset] [])) (fun t k => XS.ifNo X0.here hx rfl (hb hby at_3) rfl ((if0 _ _).trans (feq hc3).1) k) ?_
      refine oS (B := s₁.setTop (mkF m 7 #[iv p0, iv p1, iv p2, iv p3, iv p4, .unset, .unset, .unset, .unset, .unset, .unset, .unset, .unset, .unset] [(.int 1)])) (fun t k => XS.iconst X0.here hx rfl (hb hby at_6) k) ?_
      refine oS (B := s₁.setTop (mkF m 11 #[iv p0, iv p1, iv p2, iv p3, iv p4, .unset, .unset, .unset, .unset, .unset, .unset, .unset, .unset, .unset] [(.int 1)])) (fun t k => XS.goto X0.here hx rfl (pc0 := 7) (pc' := 11) rfl (hb hby at_7) (by decide) (by decide) k) ?_
      try simp only [if_neg hc3] at hJ
      exact hJ _ _ X0 e0 N0
  refine J1 ?_
  clear J1
  intro T2 ls2 X2 e2 N0
  obtain ⟨bg, e_bg⟩ : ∃ z, z = (if (p0 &&& (1 : Int32)) = (0 : Int32) then (0 : Int32) else (1 : Int32)) := ⟨_, rfl⟩
  rw [← e_bg]
  refine oS (B := T2.setTop (mkF m 13 #[iv p0, iv p1, iv p2, iv p3, iv p4, iv bg, .unset, .unset, .unset, .unset, .unset, .unset, .unset, .unset] [])) (fun t k => XS.istore X2.here hx rfl (hb hby at_11) rfl (l' := #[iv p0, iv p1, iv p2, iv p3, iv p4, iv bg, .unset, .unset, .unset, .unset, .unset, .unset, .unset, .unset]) rfl k) ?_
  refine oS (B := T2.setTop (mkF m 15 #[iv p0, iv p1, iv p2, iv p3, iv p4, iv bg, .unset, .unset, .unset, .unset, .unset, .unset, .unset, .unset] [(.int bg)])) (fun t k => XS.iload X2.here hx rfl (hb hby at_13) rfl k) ?_
  have J3 : (∀ (T' : State) (ls' : List Loc), Stand p l e room_1 s m #[(.int p0), (.int p1), (.int p2), (.int p3), (.int p4)] below meth c T' ls' 0 0 → T'.heap = h0 → Fr n0 ls' → own_G p.tables e below s (QQ_rm0 Z p0 p1 p2 p3 p4 em ke de kd h0 n0) room_1.cells room_1.slots (T'.setTop (mkF m 34 #[iv p0, iv p1, iv p2, iv p3, iv p4, iv bg, .unset, .unset, .unset, .unset, .unset, .unset, .unset, .unset] [(.int (if bg = (0 : Int32) then (((p1.toUInt32 >>> ((8 : Int32) &&& 31).toUInt32).toInt32) &&& (7 : Int32)) else ((65537 : Int32) + (p1 &&& (1 : Int32)))))]))) → own_G p.tables e below s (QQ_rm0 Z p0 p1 p2 p3 p4 em ke de kd h0 n0) room_1.cells room_1.slots (T2.setTop (mkF m 15 #[iv p0, iv p1, iv p2, iv p3, iv p4, iv bg, .unset, .unset, .unset, .unset, .unset, .unset, .unset, .unset] [(.int bg)])) := by
    intro hJ
    by_cases hc15 : bg = (0 : Int32)
    · skip
      refine oS (B := T2.setTop (mkF m 27 #[iv p0, iv p1, iv p2, iv p3, iv p4, iv bg, .unset, .unset, .unset, .unset, .unset, .unset, .unset, .unset] [])) (fun t k => XS.ifYes X2.here hx rfl (pc0 := 15) (pc' := 27) rfl (hb hby at_15) rfl ((if0 _ _).trans (teq hc15).1) (by decide) (by decide) k) ?_
      refine oS (B := T2.setTop (mkF m 28 #[iv p0, iv p1, iv p2, iv p3, iv p4, iv bg, .unset, .unset, .unset, .unset, .unset, .unset, .unset, .unset] [(.int p1)])) (fun t k => XS.iloadN X2.here hx rfl (hb hby at_27) rfl k) ?_
      refine oS (B := T2.setTop (mkF m 30 #[iv p0, iv p1, iv p2, iv p3, iv p4, iv bg, .unset, .unset, .unset, .unset, .unset, .unset, .unset, .unset] [(.int 8), (.int p1)])) (fun t k => XS.bipush X2.here hx rfl (hb hby at_28) k) ?_
      refine oS (B := T2.setTop (mkF m 31 #[iv p0, iv p1, iv p2, iv p3, iv p4, iv bg, .unset, .unset, .unset, .unset, .unset, .unset, .unset, .unset] [(.int ((p1.toUInt32 >>> ((8 : Int32) &&& 31).toUInt32).toInt32))])) (fun t k => XS.iushr X2.here hx rfl (hb hby at_30) rfl k) ?_
      refine oS (B := T2.setTop (mkF m 33 #[iv p0, iv p1, iv p2, iv p3, iv p4, iv bg, .unset, .unset, .unset, .unset, .unset, .unset, .unset, .unset] [(.int 7), (.int ((p1.toUInt32 >>> ((8 : Int32) &&& 31).toUInt32).toInt32))])) (fun t k => XS.bipush X2.here hx rfl (hb hby at_31) k) ?_
      refine oS (B := T2.setTop (mkF m 34 #[iv p0, iv p1, iv p2, iv p3, iv p4, iv bg, .unset, .unset, .unset, .unset, .unset, .unset, .unset, .unset] [(.int (((p1.toUInt32 >>> ((8 : Int32) &&& 31).toUInt32).toInt32) &&& (7 : Int32)))])) (fun t k => XS.iand X2.here hx rfl (hb hby at_33) rfl k) ?_
      try simp only [if_pos hc15] at hJ
      exact hJ _ _ X2 e2 N0
    · skip
      refine oS (B := T2.setTop (mkF m 18 #[iv p0, iv p1, iv p2, iv p3, iv p4, iv bg, .unset, .unset, .unset, .unset, .unset, .unset, .unset, .unset] [])) (fun t k => XS.ifNo X2.here hx rfl (hb hby at_15) rfl ((if0 _ _).trans (feq hc15).1) k) ?_
      refine oS (B := T2.setTop (mkF m 20 #[iv p0, iv p1, iv p2, iv p3, iv p4, iv bg, .unset, .unset, .unset, .unset, .unset, .unset, .unset, .unset] [(.int 65537)])) (fun t k => X2.ldcInt hx hown (mvT hZ (ow hw 53 rfl)) (g := (mkF m 18 #[iv p0, iv p1, iv p2, iv p3, iv p4, iv bg, .unset, .unset, .unset, .unset, .unset, .unset, .unset, .unset] [])) rfl (hb hby at_18) t k) ?_
      refine oS (B := T2.setTop (mkF m 21 #[iv p0, iv p1, iv p2, iv p3, iv p4, iv bg, .unset, .unset, .unset, .unset, .unset, .unset, .unset, .unset] [(.int p1), (.int 65537)])) (fun t k => XS.iloadN X2.here hx rfl (hb hby at_20) rfl k) ?_
      refine oS (B := T2.setTop (mkF m 22 #[iv p0, iv p1, iv p2, iv p3, iv p4, iv bg, .unset, .unset, .unset, .unset, .unset, .unset, .unset, .unset] [(.int 1), (.int p1), (.int 65537)])) (fun t k => XS.iconst X2.here hx rfl (hb hby at_21) k) ?_
      refine oS (B := T2.setTop (mkF m 23 #[iv p0, iv p1, iv p2, iv p3, iv p4, iv bg, .unset, .unset, .unset, .unset, .unset, .unset, .unset, .unset] [(.int (p1 &&& (1 : Int32))), (.int 65537)])) (fun t k => XS.iand X2.here hx rfl (hb hby at_22) rfl k) ?_
      refine oS (B := T2.setTop (mkF m 24 #[iv p0, iv p1, iv p2, iv p3, iv p4, iv bg, .unset, .unset, .unset, .unset, .unset, .unset, .unset, .unset] [(.int ((65537 : Int32) + (p1 &&& (1 : Int32))))])) (fun t k => XS.iadd X2.here hx rfl (hb hby at_23) rfl k) ?_
      refine oS (B := T2.setTop (mkF m 34 #[iv p0, iv p1, iv p2, iv p3, iv p4, iv bg, .unset, .unset, .unset, .unset, .unset, .unset, .unset, .unset] [(.int ((65537 : Int32) + (p1 &&& (1 : Int32))))])) (fun t k => XS.goto X2.here hx rfl (pc0 := 24) (pc' := 34) rfl (hb hby at_24) (by decide) (by decide) k) ?_
      try simp only [if_neg hc15] at hJ
      exact hJ _ _ X2 e2 N0
  refine J3 ?_
  clear J3
  intro T4 ls4 X4 e4 N0
  obtain ⟨n1, e_n1⟩ : ∃ z, z = (if bg = (0 : Int32) then (((p1.toUInt32 >>> ((8 : Int32) &&& 31).toUInt32).toInt32) &&& (7 : Int32)) else ((65537 : Int32) + (p1 &&& (1 : Int32)))) := ⟨_, rfl⟩
  rw [← e_n1]
  refine oS (B := T4.setTop (mkF m 36 #[iv p0, iv p1, iv p2, iv p3, iv p4, iv bg, iv n1, .unset, .unset, .unset, .unset, .unset, .unset, .unset] [])) (fun t k => XS.istore X4.here hx rfl (hb hby at_34) rfl (l' := #[iv p0, iv p1, iv p2, iv p3, iv p4, iv bg, iv n1, .unset, .unset, .unset, .unset, .unset, .unset, .unset]) rfl k) ?_
  have hn1 : n1 = (0 : Int32) ∨ n1 = (1 : Int32) ∨ n1 = (2 : Int32) ∨ n1 = (3 : Int32) ∨ n1 = (4 : Int32) ∨ n1 = (5 : Int32) ∨ n1 = (6 : Int32) ∨ n1 = (7 : Int32) ∨ n1 = (65537 : Int32) ∨ n1 = (65538 : Int32) := by rw [e_n1]; exact own_n1 _ _ _
  refine oS (B := T4.setTop (mkF m 38 #[iv p0, iv p1, iv p2, iv p3, iv p4, iv bg, iv n1, .unset, .unset, .unset, .unset, .unset, .unset, .unset] [(.int n1)])) (fun t k => XS.iload X4.here hx rfl (hb hby at_36) rfl k) ?_
  obtain ⟨T5, h5, k5, X5, e5, E5, A5, EE5, st5⟩ := newPE X4 hx hZ (ow hw 0 rfl) e4 (g := (mkF m 38 #[iv p0, iv p1, iv p2, iv p3, iv p4, iv bg, iv n1, .unset, .unset, .unset, .unset, .unset, .unset, .unset] [(.int n1)])) rfl (hb hby at_38) rfl (own_n1neg hn1) (cap := 65538) (own_n1le hn1) (by decide) (by decide) (by decide) (ad := "[B") rfl
  obtain ⟨fa, g5⟩ : ∃ z, z = h0.size := ⟨_, rfl⟩
  rw [← g5] at A5 EE5 st5
  have g_fa : n0 ≤ fa := Nat.le_trans Z0 (Nat.le_of_eq g5.symm)
  have ne_em_fa : em ≠ fa := Nat.ne_of_lt (Nat.lt_of_lt_of_le E_em.lt (Nat.le_of_eq g5.symm))
  have ne_de_fa : de ≠ fa := Nat.ne_of_lt (Nat.lt_of_lt_of_le V_de.lt (Nat.le_of_eq g5.symm))
  have E_em := E_em.ext E5
  have V_em := V_em.ext E5
  have V_de := V_de.ext E5
  have Z0 := Nat.le_trans Z0 E5.1
  have O0 := O0.ext E5
  have E_fa := EE5
  have K_fa := A5
  have V_fa : Arv Z h5 fa k5 .byte n1 [] (.int 0) := Arv.new A5 (own_n1neg hn1)
  refine oS (B := T5.setTop (mkF m 40 #[iv p0, iv p1, iv p2, iv p3, iv p4, iv bg, iv n1, .unset, .unset, .unset, .unset, .unset, .unset, .unset] [(.ref fa)])) (fun t k => st5 t k) ?_
  refine oS (B := T5.setTop (mkF m 42 #[iv p0, iv p1, iv p2, iv p3, iv p4, iv bg, iv n1, rv fa, .unset, .unset, .unset, .unset, .unset, .unset] [])) (fun t k => XS.astore X5.here hx rfl (hb hby at_40) rfl rfl (l' := #[iv p0, iv p1, iv p2, iv p3, iv p4, iv bg, iv n1, rv fa, .unset, .unset, .unset, .unset, .unset, .unset]) rfl k) ?_
  have J6 : (∀ (T' : State) (ls' : List Loc) (H' : Heap) , (∃ vs, Arv Z H' fa k5 .byte n1 vs (.int 0)) ∧ Old Z n0 H' → Stand p l e room_1 s m #[(.int p0), (.int p1), (.int p2), (.int p3), (.int p4)] below meth c T' ls' 1 65538 → T'.heap = H' → n0 ≤ H'.size → Fr n0 ls' → own_G p.tables e below s (QQ_rm0 Z p0 p1 p2 p3 p4 em ke de kd h0 n0) room_1.cells room_1.slots (T'.setTop (mkF m 62 #[iv p0, iv p1, iv p2, iv p3, iv p4, iv bg, iv n1, rv fa, .unset, .unset, .unset, .unset, .unset, .unset] []))) → own_G p.tables e below s (QQ_rm0 Z p0 p1 p2 p3 p4 em ke de kd h0 n0) room_1.cells room_1.slots (T5.setTop (mkF m 42 #[iv p0, iv p1, iv p2, iv p3, iv p4, iv bg, iv n1, rv fa, .unset, .unset, .unset, .unset, .unset, .unset] [])) := by
    intro hJ
    refine oS (B := T5.setTop (mkF m 44 #[iv p0, iv p1, iv p2, iv p3, iv p4, iv bg, iv n1, rv fa, .unset, .unset, .unset, .unset, .unset, .unset] [(.int n1)])) (fun t k => XS.iload X5.here hx rfl (hb hby at_42) rfl k) ?_
    by_cases hc44 : (0 : Int32) < n1
    · skip
      refine oS (B := T5.setTop (mkF m 47 #[iv p0, iv p1, iv p2, iv p3, iv p4, iv bg, iv n1, rv fa, .unset, .unset, .unset, .unset, .unset, .unset] [])) (fun t k => XS.ifNo X5.here hx rfl (hb hby at_44) rfl ((if0 _ _).trans (tlt hc44).2.2.2) k) ?_
      refine oS (B := T5.setTop (mkF m 49 #[iv p0, iv p1, iv p2, iv p3, iv p4, iv bg, iv n1, rv fa, .unset, .unset, .unset, .unset, .unset, .unset] [(.ref fa)])) (fun t k => XS.aload X5.here hx rfl (hb hby at_47) rfl rfl k) ?_
      refine oS (B := T5.setTop (mkF m 50 #[iv p0, iv p1, iv p2, iv p3, iv p4, iv bg, iv n1, rv fa, .unset, .unset, .unset, .unset, .unset, .unset] [(.int 0), (.ref fa)])) (fun t k => XS.iconst X5.here hx rfl (hb hby at_49) k) ?_
      refine oS (B := T5.setTop (mkF m 51 #[iv p0, iv p1, iv p2, iv p3, iv p4, iv bg, iv n1, rv fa, .unset, .unset, .unset, .unset, .unset, .unset] [(.int p1), (.int 0), (.ref fa)])) (fun t k => XS.iloadN X5.here hx rfl (hb hby at_50) rfl k) ?_
      refine oS (B := T5.setTop (mkF m 52 #[iv p0, iv p1, iv p2, iv p3, iv p4, iv bg, iv n1, rv fa, .unset, .unset, .unset, .unset, .unset, .unset] [(.int (p1.toInt8.toInt32)), (.int 0), (.ref fa)])) (fun t k => XS.i2b X5.here hx rfl (hb hby at_51) rfl k) ?_
      have Vo_7 := V_fa
      obtain ⟨cl_7, Ar_7, q_7, S_7, M_7, H_7, G_7⟩ := Vo_7
      have hin8 : ¬ ((0 : Int32) < 0 ∨ cl_7.slots.size ≤ ((0 : Int32)).toNatClampNeg) := inb_of S_7 ⟨own_i00 hn1 hc44, own_i01 hn1 hc44⟩
      obtain ⟨T8, h8, X8, e8, W8, st8⟩ := stB X5 hx hZ e5 Ar_7 (j := (0 : Int32)) hin8 (g := (mkF m 52 #[iv p0, iv p1, iv p2, iv p3, iv p4, iv bg, iv n1, rv fa, .unset, .unset, .unset, .unset, .unset, .unset] [(.int (p1.toInt8.toInt32)), (.int 0), (.ref fa)])) rfl rfl (hb hby at_52)
      have E_em := E_em.wr W8
      have V_em := V_em.other W8 ne_em_fa
      have V_de := V_de.other W8 ne_de_fa
      have E_fa := E_fa.wr W8
      have Z0 := Nat.le_trans Z0 (Keep.of_wr W8).1
      have N0 := Fr.snoc X8 N0 g_fa
      have O0 := O0.wr W8 g_fa
      obtain ⟨vfa8, V_fa⟩ := own_put V_fa W8
      refine oS (B := T8.setTop (mkF m 53 #[iv p0, iv p1, iv p2, iv p3, iv p4, iv bg, iv n1, rv fa, .unset, .unset, .unset, .unset, .unset, .unset] [])) (fun t k => st8 t k) ?_
      refine oS (B := T8.setTop (mkF m 55 #[iv p0, iv p1, iv p2, iv p3, iv p4, iv bg, iv n1, rv fa, .unset, .unset, .unset, .unset, .unset, .unset] [(.ref fa)])) (fun t k => XS.aload X8.here hx rfl (hb hby at_53) rfl rfl k) ?_
      refine oS (B := T8.setTop (mkF m 57 #[iv p0, iv p1, iv p2, iv p3, iv p4, iv bg, iv n1, rv fa, .unset, .unset, .unset, .unset, .unset, .unset] [(.int n1), (.ref fa)])) (fun t k => XS.iload X8.here hx rfl (hb hby at_55) rfl k) ?_
      refine oS (B := T8.setTop (mkF m 58 #[iv p0, iv p1, iv p2, iv p3, iv p4, iv bg, iv n1, rv fa, .unset, .unset, .unset, .unset, .unset, .unset] [(.int 1), (.int n1), (.ref fa)])) (fun t k => XS.iconst X8.here hx rfl (hb hby at_57) k) ?_
      refine oS (B := T8.setTop (mkF m 59 #[iv p0, iv p1, iv p2, iv p3, iv p4, iv bg, iv n1, rv fa, .unset, .unset, .unset, .unset, .unset, .unset] [(.int (n1 - (1 : Int32))), (.ref fa)])) (fun t k => XS.isub X8.here hx rfl (hb hby at_58) rfl k) ?_
      refine oS (B := T8.setTop (mkF m 60 #[iv p0, iv p1, iv p2, iv p3, iv p4, iv bg, iv n1, rv fa, .unset, .unset, .unset, .unset, .unset, .unset] [(.int p2), (.int (n1 - (1 : Int32))), (.ref fa)])) (fun t k => XS.iloadN X8.here hx rfl (hb hby at_59) rfl k) ?_
      refine oS (B := T8.setTop (mkF m 61 #[iv p0, iv p1, iv p2, iv p3, iv p4, iv bg, iv n1, rv fa, .unset, .unset, .unset, .unset, .unset, .unset] [(.int (p2.toInt8.toInt32)), (.int (n1 - (1 : Int32))), (.ref fa)])) (fun t k => XS.i2b X8.here hx rfl (hb hby at_60) rfl k) ?_
      have Vo_9 := V_fa
      obtain ⟨cl_9, Ar_9, q_9, S_9, M_9, H_9, G_9⟩ := Vo_9
      have hin10 : ¬ ((n1 - (1 : Int32)) < 0 ∨ cl_9.slots.size ≤ ((n1 - (1 : Int32))).toNatClampNeg) := inb_of S_9 ⟨own_i10 hn1 hc44, own_i11 hn1 hc44⟩
      obtain ⟨T10, h10, X10, e10, W10, st10⟩ := stB X8 hx hZ e8 Ar_9 (j := (n1 - (1 : Int32))) hin10 (g := (mkF m 61 #[iv p0, iv p1, iv p2, iv p3, iv p4, iv bg, iv n1, rv fa, .unset, .unset, .unset, .unset, .unset, .unset] [(.int (p2.toInt8.toInt32)), (.int (n1 - (1 : Int32))), (.ref fa)])) rfl rfl (hb hby at_61)
      have E_em := E_em.wr W10
      have V_em := V_em.other W10 ne_em_fa
      have V_de := V_de.other W10 ne_de_fa
      have E_fa := E_fa.wr W10
      have Z0 := Nat.le_trans Z0 (Keep.of_wr W10).1
      have N0 := Fr.snoc X10 N0 g_fa
      have O0 := O0.wr W10 g_fa
      obtain ⟨vfa10, V_fa⟩ := own_put V_fa W10
      refine oS (B := T10.setTop (mkF m 62 #[iv p0, iv p1, iv p2, iv p3, iv p4, iv bg, iv n1, rv fa, .unset, .unset, .unset, .unset, .unset, .unset] [])) (fun t k => st10 t k) ?_
      exact hJ _ _ _  (by exact ⟨⟨_, V_fa⟩, O0⟩) X10 e10 Z0 N0
    · skip
      refine oS (B := T5.setTop (mkF m 62 #[iv p0, iv p1, iv p2, iv p3, iv p4, iv bg, iv n1, rv fa, .unset, .unset, .unset, .unset, .unset, .unset] [])) (fun t k => XS.ifYes X5.here hx rfl (pc0 := 44) (pc' := 62) rfl (hb hby at_44) rfl ((if0 _ _).trans (flt hc44).2.2.2) (by decide) (by decide) k) ?_
      exact hJ _ _ _  (by exact ⟨⟨_, V_fa⟩, O0⟩) X5 e5 Z0 N0
  refine J6 ?_
  clear J6
  intro T11 ls11 H11  hcut11 X11 e11 Z0 N0
  obtain ⟨⟨vfa, V_fa⟩, O0⟩ := hcut11
  have V_em := BB.2.2.1.ext O0.2
  have E_em := BB.2.1.ext O0.2
  have V_de := BB.2.2.2.2.ext O0.2
  refine oS (B := T11.setTop (mkF m 63 #[iv p0, iv p1, iv p2, iv p3, iv p4, iv bg, iv n1, rv fa, .unset, .unset, .unset, .unset, .unset, .unset] [(.int p2)])) (fun t k => XS.iloadN X11.here hx rfl (hb hby at_62) rfl k) ?_
  refine oS (B := T11.setTop (mkF m 65 #[iv p0, iv p1, iv p2, iv p3, iv p4, iv bg, iv n1, rv fa, .unset, .unset, .unset, .unset, .unset, .unset] [(.int 8), (.int p2)])) (fun t k => XS.bipush X11.here hx rfl (hb hby at_63) k) ?_
  refine oS (B := T11.setTop (mkF m 66 #[iv p0, iv p1, iv p2, iv p3, iv p4, iv bg, iv n1, rv fa, .unset, .unset, .unset, .unset, .unset, .unset] [(.int ((p2.toUInt32 >>> ((8 : Int32) &&& 31).toUInt32).toInt32))])) (fun t k => XS.iushr X11.here hx rfl (hb hby at_65) rfl k) ?_
  refine oS (B := T11.setTop (mkF m 67 #[iv p0, iv p1, iv p2, iv p3, iv p4, iv bg, iv n1, rv fa, .unset, .unset, .unset, .unset, .unset, .unset] [(.int 3), (.int ((p2.toUInt32 >>> ((8 : Int32) &&& 31).toUInt32).toInt32))])) (fun t k => XS.iconst X11.here hx rfl (hb hby at_66) k) ?_
  refine oS (B := T11.setTop (mkF m 68 #[iv p0, iv p1, iv p2, iv p3, iv p4, iv bg, iv n1, rv fa, .unset, .unset, .unset, .unset, .unset, .unset] [(.int (((p2.toUInt32 >>> ((8 : Int32) &&& 31).toUInt32).toInt32) &&& (3 : Int32)))])) (fun t k => XS.iand X11.here hx rfl (hb hby at_67) rfl k) ?_
  obtain ⟨n2, e_n2⟩ : ∃ z, z = (((p2.toUInt32 >>> ((8 : Int32) &&& 31).toUInt32).toInt32) &&& (3 : Int32)) := ⟨_, rfl⟩
  rw [← e_n2]
  refine oS (B := T11.setTop (mkF m 70 #[iv p0, iv p1, iv p2, iv p3, iv p4, iv bg, iv n1, rv fa, iv n2, .unset, .unset, .unset, .unset, .unset] [])) (fun t k => XS.istore X11.here hx rfl (hb hby at_68) rfl (l' := #[iv p0, iv p1, iv p2, iv p3, iv p4, iv bg, iv n1, rv fa, iv n2, .unset, .unset, .unset, .unset, .unset]) rfl k) ?_
  have h24 : n2 = 0 ∨ n2 = 1 ∨ n2 = 2 ∨ n2 = 3 := by rw [e_n2]; exact own_and3 _
  clear e_n2
  rcases h24 with rfl | rfl | rfl | rfl
  · skip
    refine oS (B := T11.setTop (mkF m 72 #[iv p0, iv p1, iv p2, iv p3, iv p4, iv bg, iv n1, rv fa, iv 0, .unset, .unset, .unset, .unset, .unset] [(.int 0)])) (fun t k => XS.iload X11.here hx rfl (hb hby at_70) rfl k) ?_
    obtain ⟨T12, h12, k12, X12, e12, E12, A12, EE12, st12⟩ := newPE X11 hx hZ (ow hw 0 rfl) e11 (g := (mkF m 72 #[iv p0, iv p1, iv p2, iv p3, iv p4, iv bg, iv n1, rv fa, iv 0, .unset, .unset, .unset, .unset, .unset] [(.int 0)])) rfl (hb hby at_72) rfl (by decide) (cap := 0) (by decide) (by decide) (by decide) (by decide) (ad := "[B") rfl
    obtain ⟨se, g12⟩ : ∃ z, z = H11.size := ⟨_, rfl⟩
    rw [← g12] at A12 EE12 st12
    have g_se : n0 ≤ se := Nat.le_trans Z0 (Nat.le_of_eq g12.symm)
    have ne_em_se : em ≠ se := Nat.ne_of_lt (Nat.lt_of_lt_of_le E_em.lt (Nat.le_of_eq g12.symm))
    have ne_de_se : de ≠ se := Nat.ne_of_lt (Nat.lt_of_lt_of_le V_de.lt (Nat.le_of_eq g12.symm))
    have ne_fa_se : fa ≠ se := Nat.ne_of_lt (Nat.lt_of_lt_of_le V_fa.lt (Nat.le_of_eq g12.symm))
    have E_em := E_em.ext E12
    have V_em := V_em.ext E12
    have V_de := V_de.ext E12
    have V_fa := V_fa.ext E12
    have Z0 := Nat.le_trans Z0 E12.1
    have O0 := O0.ext E12
    have E_se := EE12
    have K_se := A12
    have V_se : Arv Z h12 se k12 .byte (0 : Int32) [] (.int 0) := (Arv.new A12 (by decide)).pad (pad_rep [] (.int 0) 0)
    refine oS (B := T12.setTop (mkF m 74 #[iv p0, iv p1, iv p2, iv p3, iv p4, iv bg, iv n1, rv fa, iv 0, .unset, .unset, .unset, .unset, .unset] [(.ref se)])) (fun t k => st12 t k) ?_
    refine oS (B := T12.setTop (mkF m 76 #[iv p0, iv p1, iv p2, iv p3, iv p4, iv bg, iv n1, rv fa, iv 0, rv se, .unset, .unset, .unset, .unset] [])) (fun t k => XS.astore X12.here hx rfl (hb hby at_74) rfl rfl (l' := #[iv p0, iv p1, iv p2, iv p3, iv p4, iv bg, iv n1, rv fa, iv 0, rv se, .unset, .unset, .unset, .unset]) rfl k) ?_
    refine oS (B := T12.setTop (mkF m 78 #[iv p0, iv p1, iv p2, iv p3, iv p4, iv bg, iv n1, rv fa, iv 0, rv se, .unset, .unset, .unset, .unset] [(.int 0)])) (fun t k => XS.iload X12.here hx rfl (hb hby at_76) rfl k) ?_
    refine oS (B := T12.setTop (mkF m 87 #[iv p0, iv p1, iv p2, iv p3, iv p4, iv bg, iv n1, rv fa, iv 0, rv se, .unset, .unset, .unset, .unset] [])) (fun t k => XS.ifYes X12.here hx rfl (pc0 := 78) (pc' := 87) rfl (hb hby at_78) rfl ((if0 _ _).trans (flt (by decide)).2.2.2) (by decide) (by decide) k) ?_
    refine oS (B := T12.setTop (mkF m 89 #[iv p0, iv p1, iv p2, iv p3, iv p4, iv bg, iv n1, rv fa, iv 0, rv se, .unset, .unset, .unset, .unset] [(.int 0)])) (fun t k => XS.iload X12.here hx rfl (hb hby at_87) rfl k) ?_
    refine oS (B := T12.setTop (mkF m 90 #[iv p0, iv p1, iv p2, iv p3, iv p4, iv bg, iv n1, rv fa, iv 0, rv se, .unset, .unset, .unset, .unset] [(.int 1), (.int 0)])) (fun t k => XS.iconst X12.here hx rfl (hb hby at_89) k) ?_
    refine oS (B := T12.setTop (mkF m 102 #[iv p0, iv p1, iv p2, iv p3, iv p4, iv bg, iv n1, rv fa, iv 0, rv se, .unset, .unset, .unset, .unset] [])) (fun t k => XS.icmpYes X12.here hx rfl (pc0 := 90) (pc' := 102) rfl (hb hby at_90) rfl (flt (by decide)).2.2.2 (by decide) (by decide) k) ?_
    refine oS (B := T12.setTop (mkF m 104 #[iv p0, iv p1, iv p2, iv p3, iv p4, iv bg, iv n1, rv fa, iv 0, rv se, .unset, .unset, .unset, .unset] [(.int 0)])) (fun t k => XS.iload X12.here hx rfl (hb hby at_102) rfl k) ?_
    refine oS (B := T12.setTop (mkF m 105 #[iv p0, iv p1, iv p2, iv p3, iv p4, iv bg, iv n1, rv fa, iv 0, rv se, .unset, .unset, .unset, .unset] [(.int 2), (.int 0)])) (fun t k => XS.iconst X12.here hx rfl (hb hby at_104) k) ?_
    refine oS (B := T12.setTop (mkF m 115 #[iv p0, iv p1, iv p2, iv p3, iv p4, iv bg, iv n1, rv fa, iv 0, rv se, .unset, .unset, .unset, .unset] [])) (fun t k => XS.icmpYes X12.here hx rfl (pc0 := 105) (pc' := 115) rfl (hb hby at_105) rfl (flt (by decide)).2.2.2 (by decide) (by decide) k) ?_
    obtain ⟨T13, h13, X13, e13, E13, A13, D13, -, st13⟩ := newO X12 hx hZ hown (ow hw 1 rfl) (ow hw 2 rfl) (ow hw 3 rfl) e12 (g := (mkF m 115 #[iv p0, iv p1, iv p2, iv p3, iv p4, iv bg, iv n1, rv fa, iv 0, rv se, .unset, .unset, .unset, .unset] [])) rfl (hb hby at_115) (by decide) (by decide)
    obtain ⟨bu, g13⟩ : ∃ z, z = h12.size := ⟨_, rfl⟩
    rw [← g13] at A13 D13 st13
    have g_bu : n0 ≤ bu := Nat.le_trans Z0 (Nat.le_of_eq g13.symm)
    have ne_em_bu : em ≠ bu := Nat.ne_of_lt (Nat.lt_of_lt_of_le E_em.lt (Nat.le_of_eq g13.symm))
    have ne_de_bu : de ≠ bu := Nat.ne_of_lt (Nat.lt_of_lt_of_le V_de.lt (Nat.le_of_eq g13.symm))
    have ne_fa_bu : fa ≠ bu := Nat.ne_of_lt (Nat.lt_of_lt_of_le V_fa.lt (Nat.le_of_eq g13.symm))
    have ne_se_bu : se ≠ bu := Nat.ne_of_lt (Nat.lt_of_lt_of_le E_se.lt (Nat.le_of_eq g13.symm))
    have E_em := E_em.ext E13
    have V_em := V_em.ext E13
    have V_de := V_de.ext E13
    have V_fa := V_fa.ext E13
    have E_se := E_se.ext E13
    have V_se := V_se.ext E13
    have Z0 := Nat.le_trans Z0 E13.1
    have O0 := O0.ext E13
    have E_bu := A13
    have F_last_bu : Fld Z h13 bu "com/example/loomwire/loomwire/transport/MessageBuffer" "last" "[B" .null := D13 (Or.inl (ow hw 13 rfl)) (ty := (.array .byte)) (by decide)
    have F_length_bu : Fld Z h13 bu "com/example/loomwire/loomwire/transport/MessageBuffer" "length" "I" (.int 0) := D13 (Or.inl (ow hw 20 rfl)) (ty := .int) (by decide)
    have F_full_bu : Fld Z h13 bu "com/example/loomwire/loomwire/transport/MessageBuffer" "full" "Ljava/util/List;" .null := D13 (Or.inl (ow hw 27 rfl)) (ty := (.object "java/util/List")) (by decide)
    have F_lastLength_bu : Fld Z h13 bu "com/example/loomwire/loomwire/transport/MessageBuffer" "lastLength" "I" (.int 0) := D13 (Or.inl (ow hw 29 rfl)) (ty := .int) (by decide)
    refine oS (B := T13.setTop (mkF m 118 #[iv p0, iv p1, iv p2, iv p3, iv p4, iv bg, iv n1, rv fa, iv 0, rv se, .unset, .unset, .unset, .unset] [(.ref bu)])) (fun t k => st13 t k) ?_
    refine oS (B := T13.setTop (mkF m 119 #[iv p0, iv p1, iv p2, iv p3, iv p4, iv bg, iv n1, rv fa, iv 0, rv se, .unset, .unset, .unset, .unset] [(.ref bu), (.ref bu)])) (fun t k => XS.dup X13.here hx rfl (hb hby at_118) rfl rfl k) ?_
    obtain ⟨_, _, ⟨T14, L14, k14, n14⟩, -, X14, ⟨Lc14, hQ14, l14, y14, z14⟩, st14⟩ := X13.specialBack hx (y := (⟨"com/example/loomwire/loomwire/transport/MessageBuffer", "<init>", "()V"⟩ : MethodName)) rfl hown (mvT hZ (ow hw 4 rfl)) (mvT hZ (ow hw 5 rfl)) (mvT hZ (ow hw 6 rfl)) (by decide) (backOf (W := 1) (rm1 l Z a0 hw [] bu em ke de kd h13 n0 Z0 E_bu g_bu F_full_bu F_last_bu F_lastLength_bu F_length_bu BB O0) hZ (ow hw 6 rfl) (ow hw 3 rfl) (by decide) (by decide)) (g := (mkF m 119 #[iv p0, iv p1, iv p2, iv p3, iv p4, iv bg, iv n1, rv fa, iv 0, rv se, .unset, .unset, .unset, .unset] [(.ref bu), (.ref bu)])) rfl (by rw [hml]; rfl) (Steps.refl _) (a := bu) (argsL := []) (rest := [(.ref bu)]) (lenOf pd_2 rfl) rfl (by show 2 * 0 + _ ≤ _; exact Nat.le_of_eq rfl) (hb hby at_119) (fun _ _ => ⟨rfl, e13, (by decide : 3 + 0 ≤ _), (by decide : 65542 + 0 ≤ _)⟩)
    dsimp only [Pt.U, Pt.locs, Pt.cells, Pt.slots] at X14 l14 y14 z14 st14 hQ14
    subst l14 y14 z14
    obtain ⟨rfl, N14q, K14, G0_14, G1_14, G2_14, G3_14⟩ := hQ14
    have N0 := Fr.app N0 N14q
    have E_em := E_em.keep K14
    have V_em := V_em.keep K14 (ninS ne_em_bu nin0)
    have V_de := V_de.keep K14 (ninS ne_de_bu nin0)
    have V_fa := V_fa.keep K14 (ninS ne_fa_bu nin0)
    have E_se := E_se.keep K14
    have V_se := V_se.keep K14 (ninS ne_se_bu nin0)
    have E_bu := E_bu.keep K14
    have Z0 := Nat.le_trans Z0 K14.1
    have O0 := O0.keep K14 (allS g_bu all0)
    have F_full_bu := G0_14
    have F_last_bu := G1_14
    have F_lastLength_bu := G2_14
    have F_length_bu := G3_14
    refine oS (B := T14.setTop (mkF m 122 #[iv p0, iv p1, iv p2, iv p3, iv p4, iv bg, iv n1, rv fa, iv 0, rv se, .unset, .unset, .unset, .unset] [(.ref bu)])) (fun t k => st14.trans k) ?_
    refine oS (B := T14.setTop (mkF m 124 #[iv p0, iv p1, iv p2, iv p3, iv p4, iv bg, iv n1, rv fa, iv 0, rv se, rv bu, .unset, .unset, .unset] [])) (fun t k => XS.astore X14.here hx rfl (hb hby at_122) rfl rfl (l' := #[iv p0, iv p1, iv p2, iv p3, iv p4, iv bg, iv n1, rv fa, iv 0, rv se, rv bu, .unset, .unset, .unset]) rfl k) ?_
    refine oS (B := T14.setTop (mkF m 126 #[iv p0, iv p1, iv p2, iv p3, iv p4, iv bg, iv n1, rv fa, iv 0, rv se, rv bu, .unset, .unset, .unset] [(.ref bu)])) (fun t k => XS.aload X14.here hx rfl (hb hby at_124) rfl rfl k) ?_
    refine oS (B := T14.setTop (mkF m 128 #[iv p0, iv p1, iv p2, iv p3, iv p4, iv bg, iv n1, rv fa, iv 0, rv se, rv bu, .unset, .unset, .unset] [(.ref fa), (.ref bu)])) (fun t k => XS.aload X14.here hx rfl (hb hby at_126) rfl rfl k) ?_
    obtain ⟨cq15, kq15, q15a, q15b, q15c⟩ := isOf hZ rfl E_bu
    obtain ⟨_, _, ⟨T15, L15, k15, n15⟩, -, X15, ⟨Lc15, hQ15, l15, y15, z15⟩, st15⟩ := X14.virtualBack hx (y := (⟨"com/example/loomwire/loomwire/transport/MessageBuffer", "append", "([B)V"⟩ : MethodName)) (z := (⟨"com/example/loomwire/loomwire/transport/MessageBuffer", "append", "([B)V"⟩ : MethodName)) hown (mvT hZ (ow hw 14 rfl)) (mvT hZ (ow hw 15 rfl)) (notFace_of_selects (args := #[]) (mvT hZ (ow hw 17 rfl))) (mvT hZ (ow hw 17 rfl)) (mvT hZ (ow hw 16 rfl)) (by decide) (backOf (W := 0) (rma l Z a0 hw [] bu fa em ke de kd _ _ n1 T14.heap n0 Z0 E_bu g_bu F_full_bu F_last_bu F_lastLength_bu F_length_bu BB O0 (Ne.symm ne_fa_bu) hn1 V_fa) hZ (ow hw 18 rfl) (ow hw 3 rfl) (by decide) (by decide)) q15a q15c (g := (mkF m 128 #[iv p0, iv p1, iv p2, iv p3, iv p4, iv bg, iv n1, rv fa, iv 0, rv se, rv bu, .unset, .unset, .unset] [(.ref fa), (.ref bu)])) rfl (by rw [hml]; rfl) (Steps.refl _) (argsL := [(.ref fa)]) (rest := []) (lenOf pd_8 rfl) rfl (by show 2 * 0 + _ ≤ _; exact Nat.le_of_eq rfl) (hb hby at_128) (fun _ _ => ⟨rfl, rfl, (by decide : 3 + 4 ≤ _), (by decide : 65542 + 65551 ≤ _)⟩)
    dsimp only [Pt.U, Pt.locs, Pt.cells, Pt.slots] at X15 l15 y15 z15 st15 hQ15
    subst l15 y15 z15
    obtain ⟨vf, vl, vll, vlen, rfl, N15q, K15, F_full_bu, F_last_bu, F_lastLength_bu, F_length_bu⟩ := hQ15
    have N0 := Fr.app N0 N15q
    have E_em := E_em.keep K15
    have V_em := V_em.keep K15 (ninS ne_em_bu nin0)
    have V_de := V_de.keep K15 (ninS ne_de_bu nin0)
    have V_fa := V_fa.keep K15 (ninS ne_fa_bu nin0)
    have E_se := E_se.keep K15
    have V_se := V_se.keep K15 (ninS ne_se_bu nin0)
    have E_bu := E_bu.keep K15
    have Z0 := Nat.le_trans Z0 K15.1
    have O0 := O0.keep K15 (allS g_bu all0)
    refine oS (B := T15.setTop (mkF m 131 #[iv p0, iv p1, iv p2, iv p3, iv p4, iv bg, iv n1, rv fa, iv 0, rv se, rv bu, .unset, .unset, .unset] [])) (fun t k => st15.trans k) ?_
    refine oS (B := T15.setTop (mkF m 133 #[iv p0, iv p1, iv p2, iv p3, iv p4, iv bg, iv n1, rv fa, iv 0, rv se, rv bu, .unset, .unset, .unset] [(.ref bu)])) (fun t k => XS.aload X15.here hx rfl (hb hby at_131) rfl rfl k) ?_
    obtain ⟨cq16, kq16, q16a, q16b, q16c⟩ := isOf hZ rfl E_bu
    obtain ⟨_, _, ⟨T16, L16, k16, n16⟩, -, X16, ⟨Lc16, hQ16, l16, y16, z16⟩, st16⟩ := X15.virtualBack hx (y := (⟨"com/example/loomwire/loomwire/transport/MessageBuffer", "clear", "()V"⟩ : MethodName)) (z := (⟨"com/example/loomwire/loomwire/transport/MessageBuffer", "clear", "()V"⟩ : MethodName)) hown (mvT hZ (ow hw 21 rfl)) (mvT hZ (ow hw 22 rfl)) (notFace_of_selects (args := #[]) (mvT hZ (ow hw 24 rfl))) (mvT hZ (ow hw 24 rfl)) (mvT hZ (ow hw 23 rfl)) (by decide) (backOf (W := 0) (rm4 l Z a0 hw [] bu em ke de kd _ _ _ _ T15.heap n0 Z0 E_bu g_bu F_full_bu F_last_bu F_lastLength_bu F_length_bu BB O0) hZ (ow hw 25 rfl) (ow hw 3 rfl) (by decide) (by decide)) q16a q16c (g := (mkF m 133 #[iv p0, iv p1, iv p2, iv p3, iv p4, iv bg, iv n1, rv fa, iv 0, rv se, rv bu, .unset, .unset, .unset] [(.ref bu)])) rfl (by rw [hml]; rfl) (Steps.refl _) (argsL := []) (rest := []) (lenOf pd_2 rfl) rfl (by show 2 * 0 + _ ≤ _; exact Nat.le_of_eq rfl) (hb hby at_133) (fun _ _ => ⟨rfl, rfl, (by decide : 7 + 0 ≤ _), (by decide : 131093 + 0 ≤ _)⟩)
    dsimp only [Pt.U, Pt.locs, Pt.cells, Pt.slots] at X16 l16 y16 z16 st16 hQ16
    subst l16 y16 z16
    obtain ⟨rfl, N16q, K16, G0_16, G1_16, G2_16, G3_16⟩ := hQ16
    have N0 := Fr.app N0 N16q
    have E_em := E_em.keep K16
    have V_em := V_em.keep K16 (ninS ne_em_bu nin0)
    have V_de := V_de.keep K16 (ninS ne_de_bu nin0)
    have V_fa := V_fa.keep K16 (ninS ne_fa_bu nin0)
    have E_se := E_se.keep K16
    have V_se := V_se.keep K16 (ninS ne_se_bu nin0)
    have E_bu := E_bu.keep K16
    have Z0 := Nat.le_trans Z0 K16.1
    have O0 := O0.keep K16 (allS g_bu all0)
    have F_full_bu := G0_16
    have F_last_bu := G1_16
    have F_lastLength_bu := G2_16
    have F_length_bu := G3_16
    refine oS (B := T16.setTop (mkF m 136 #[iv p0, iv p1, iv p2, iv p3, iv p4, iv bg, iv n1, rv fa, iv 0, rv se, rv bu, .unset, .unset, .unset] [])) (fun t k => st16.trans k) ?_
    refine oS (B := T16.setTop (mkF m 138 #[iv p0, iv p1, iv p2, iv p3, iv p4, iv bg, iv n1, rv fa, iv 0, rv se, rv bu, .unset, .unset, .unset] [(.ref bu)])) (fun t k => XS.aload X16.here hx rfl (hb hby at_136) rfl rfl k) ?_
    obtain ⟨cq17, kq17, q17a, q17b, q17c⟩ := isOf hZ rfl E_bu
    obtain ⟨_, _, ⟨T17, L17, k17, n17⟩, -, X17, ⟨Lc17, hQ17, l17, y17, z17⟩, st17⟩ := X16.virtualBack hx (y := (⟨"com/example/loomwire/loomwire/transport/MessageBuffer", "length", "()I"⟩ : MethodName)) (z := (⟨"com/example/loomwire/loomwire/transport/MessageBuffer", "length", "()I"⟩ : MethodName)) hown (mvT hZ (ow hw 30 rfl)) (mvT hZ (ow hw 31 rfl)) (notFace_of_selects (args := #[]) (mvT hZ (ow hw 33 rfl))) (mvT hZ (ow hw 33 rfl)) (mvT hZ (ow hw 32 rfl)) (by decide) (backOf (W := 0) (rm5 l Z a0 hw [] bu (0 : Int32) T16.heap n0 Z0 F_length_bu) hZ (ow hw 34 rfl) (ow hw 3 rfl) (by decide) (by decide)) q17a q17c (g := (mkF m 138 #[iv p0, iv p1, iv p2, iv p3, iv p4, iv bg, iv n1, rv fa, iv 0, rv se, rv bu, .unset, .unset, .unset] [(.ref bu)])) rfl (by rw [hml]; rfl) (Steps.refl _) (argsL := []) (rest := []) (lenOf pd_9 rfl) rfl (by show 2 * 0 + _ ≤ _; exact Nat.le_of_eq rfl) (hb hby at_138) (fun _ _ => ⟨rfl, rfl, (by decide : 7 + 0 ≤ _), (by decide : 131093 + 0 ≤ _)⟩)
    dsimp only [Pt.U, Pt.locs, Pt.cells, Pt.slots] at X17 l17 y17 z17 st17 hQ17
    subst l17 y17 z17
    obtain ⟨rfl, N17q, e17⟩ := hQ17
    have N0 := Fr.app N0 N17q
    refine oS (B := T17.setTop (mkF m 141 #[iv p0, iv p1, iv p2, iv p3, iv p4, iv bg, iv n1, rv fa, iv 0, rv se, rv bu, .unset, .unset, .unset] [(.int 0)])) (fun t k => st17.trans k) ?_
    refine oS (B := T17.setTop (mkF m 146 #[iv p0, iv p1, iv p2, iv p3, iv p4, iv bg, iv n1, rv fa, iv 0, rv se, rv bu, .unset, .unset, .unset] [])) (fun t k => XS.ifYes X17.here hx rfl (pc0 := 141) (pc' := 146) rfl (hb hby at_141) rfl ((if0 _ _).trans (teq rfl).1) (by decide) (by decide) k) ?_
    refine oS (B := T17.setTop (mkF m 148 #[iv p0, iv p1, iv p2, iv p3, iv p4, iv bg, iv n1, rv fa, iv 0, rv se, rv bu, .unset, .unset, .unset] [(.ref bu)])) (fun t k => XS.aload X17.here hx rfl (hb hby at_146) rfl rfl k) ?_
    have lt_fa := V_fa.lt
    have lt_se := E_se.lt
    have lt_bu := E_bu.lt
    obtain ⟨cq18, kq18, q18a, q18b, q18c⟩ := isOf hZ e17 E_bu
    obtain ⟨_, _, ⟨T18, L18, k18, n18⟩, -, X18, ⟨Lc18, hQ18, l18, y18, z18⟩, st18⟩ := X17.virtualBack hx (y := (⟨"com/example/loomwire/loomwire/transport/MessageBuffer", "toArray", "()[B"⟩ : MethodName)) (z := (⟨"com/example/loomwire/loomwire/transport/MessageBuffer", "toArray", "()[B"⟩ : MethodName)) hown (mvT hZ (ow hw 35 rfl)) (mvT hZ (ow hw 36 rfl)) (notFace_of_selects (args := #[]) (mvT hZ (ow hw 38 rfl))) (mvT hZ (ow hw 38 rfl)) (mvT hZ (ow hw 37 rfl)) (by decide) (backOf (W := 0) (rmta l Z a0 hw [] bu em _ _ (0 : Int32) T16.heap n0 Z0 F_full_bu F_last_bu F_lastLength_bu E_em V_em (by decide)) hZ (ow hw 39 rfl) (ow hw 3 rfl) (by decide) (by decide)) q18a q18c (g := (mkF m 148 #[iv p0, iv p1, iv p2, iv p3, iv p4, iv bg, iv n1, rv fa, iv 0, rv se, rv bu, .unset, .unset, .unset] [(.ref bu)])) rfl (by rw [hml]; rfl) (Steps.refl _) (argsL := []) (rest := []) (lenOf pd_10 rfl) rfl (by show 2 * 0 + _ ≤ _; exact Nat.le_of_eq rfl) (hb hby at_148) (fun _ _ => ⟨rfl, e17, (by decide : 7 + 1 ≤ _), (by decide : 131093 + 3 ≤ _)⟩)
    dsimp only [Pt.U, Pt.locs, Pt.cells, Pt.slots] at X18 l18 y18 z18 st18 hQ18
    subst l18 y18 z18
    obtain ⟨r1, kr1, vr1, rfl, N18q, K18, g_r1, sz'_r1, V_r1, hv_r1⟩ := hQ18
    have N0 := Fr.app N0 N18q
    have E_em := E_em.keep K18
    have V_em := V_em.keep K18 nin0
    have V_de := V_de.keep K18 nin0
    have V_fa := V_fa.keep K18 nin0
    have E_se := E_se.keep K18
    have V_se := V_se.keep K18 nin0
    have E_bu := E_bu.keep K18
    have F_full_bu := F_full_bu.keep K18 nin0
    have F_last_bu := F_last_bu.keep K18 nin0
    have F_lastLength_bu := F_lastLength_bu.keep K18 nin0
    have F_length_bu := F_length_bu.keep K18 nin0
    have Z0 := Nat.le_trans Z0 K18.1
    have O0 := O0.keep K18 all0
    have ne_fa_r1 : fa ≠ r1 := Nat.ne_of_lt (Nat.lt_of_lt_of_le lt_fa sz'_r1)
    have ne_se_r1 : se ≠ r1 := Nat.ne_of_lt (Nat.lt_of_lt_of_le lt_se sz'_r1)
    have ne_bu_r1 : bu ≠ r1 := Nat.ne_of_lt (Nat.lt_of_lt_of_le lt_bu sz'_r1)
    refine oS (B := T18.setTop (mkF m 151 #[iv p0, iv p1, iv p2, iv p3, iv p4, iv bg, iv n1, rv fa, iv 0, rv se, rv bu, .unset, .unset, .unset] [(.ref r1)])) (fun t k => st18.trans k) ?_
    refine oS (B := T18.setTop (mkF m 153 #[iv p0, iv p1, iv p2, iv p3, iv p4, iv bg, iv n1, rv fa, iv 0, rv se, rv bu, rv r1, .unset, .unset] [])) (fun t k => XS.astore X18.here hx rfl (hb hby at_151) rfl rfl (l' := #[iv p0, iv p1, iv p2, iv p3, iv p4, iv bg, iv n1, rv fa, iv 0, rv se, rv bu, rv r1, .unset, .unset]) rfl k) ?_
    refine oS (B := T18.setTop (mkF m 155 #[iv p0, iv p1, iv p2, iv p3, iv p4, iv bg, iv n1, rv fa, iv 0, rv se, rv bu, rv r1, .unset, .unset] [(.ref r1)])) (fun t k => XS.aload X18.here hx rfl (hb hby at_153) rfl rfl k) ?_
    have Vo_19 := V_r1
    obtain ⟨cl_19, Ar_19, q_19, S_19, M_19, H_19, G_19⟩ := Vo_19
    refine oS (B := T18.setTop (mkF m 156 #[iv p0, iv p1, iv p2, iv p3, iv p4, iv bg, iv n1, rv fa, iv 0, rv se, rv bu, rv r1, .unset, .unset] [(.int 0)])) (fun t k => X18.arraylength hx Ar_19.1 (State.isArrayOf_alike hZ.alike Ar_19.2.1) (g := (mkF m 155 #[iv p0, iv p1, iv p2, iv p3, iv p4, iv bg, iv n1, rv fa, iv 0, rv se, rv bu, rv r1, .unset, .unset] [(.ref r1)])) rfl rfl (hb hby at_155) t (by rw [len_of S_19 M_19]; exact k)) ?_
    refine oS (B := T18.setTop (mkF m 161 #[iv p0, iv p1, iv p2, iv p3, iv p4, iv bg, iv n1, rv fa, iv 0, rv se, rv bu, rv r1, .unset, .unset] [])) (fun t k => XS.ifYes X18.here hx rfl (pc0 := 156) (pc' := 161) rfl (hb hby at_156) rfl ((if0 _ _).trans (teq rfl).1) (by decide) (by decide) k) ?_
    refine oS (B := T18.setTop (mkF m 163 #[iv p0, iv p1, iv p2, iv p3, iv p4, iv bg, iv n1, rv fa, iv 0, rv se, rv bu, rv r1, .unset, .unset] [(.ref bu)])) (fun t k => XS.aload X18.here hx rfl (hb hby at_161) rfl rfl k) ?_
    refine oS (B := T18.setTop (mkF m 165 #[iv p0, iv p1, iv p2, iv p3, iv p4, iv bg, iv n1, rv fa, iv 0, rv se, rv bu, rv r1, .unset, .unset] [(.ref se), (.ref bu)])) (fun t k => XS.aload X18.here hx rfl (hb hby at_163) rfl rfl k) ?_
    have lt_fa := V_fa.lt
    have lt_se := E_se.lt
    have lt_bu := E_bu.lt
    have lt_r1 := V_r1.lt
    obtain ⟨cq20, kq20, q20a, q20b, q20c⟩ := isOf hZ rfl E_bu
    obtain ⟨_, _, ⟨T20, L20, k20, n20⟩, -, X20, ⟨Lc20, hQ20, l20, y20, z20⟩, st20⟩ := X18.virtualBack hx (y := (⟨"com/example/loomwire/loomwire/transport/MessageBuffer", "append", "([B)V"⟩ : MethodName)) (z := (⟨"com/example/loomwire/loomwire/transport/MessageBuffer", "append", "([B)V"⟩ : MethodName)) hown (mvT hZ (ow hw 14 rfl)) (mvT hZ (ow hw 15 rfl)) (notFace_of_selects (args := #[]) (mvT hZ (ow hw 17 rfl))) (mvT hZ (ow hw 17 rfl)) (mvT hZ (ow hw 16 rfl)) (by decide) (backOf (W := 0) (rms_0 l Z a0 hw [] bu se em ke de kd _ _ T18.heap n0 Z0 E_bu g_bu F_full_bu F_last_bu F_lastLength_bu F_length_bu BB O0 (Ne.symm ne_se_bu) V_se) hZ (ow hw 18 rfl) (ow hw 3 rfl) (by decide) (by decide)) q20a q20c (g := (mkF m 165 #[iv p0, iv p1, iv p2, iv p3, iv p4, iv bg, iv n1, rv fa, iv 0, rv se, rv bu, rv r1, .unset, .unset] [(.ref se), (.ref bu)])) rfl (by rw [hml]; rfl) (Steps.refl _) (argsL := [(.ref se)]) (rest := []) (lenOf pd_8 rfl) rfl (by show 2 * 0 + _ ≤ _; exact Nat.le_of_eq rfl) (hb hby at_165) (fun _ _ => ⟨rfl, rfl, (by decide : 8 + 1 ≤ _), (by decide : 131096 + 4 ≤ _)⟩)
    dsimp only [Pt.U, Pt.locs, Pt.cells, Pt.slots] at X20 l20 y20 z20 st20 hQ20
    subst l20 y20 z20
    obtain ⟨rfl, N20q, K20, F_full_bu, F_last_bu, F_lastLength_bu, F_length_bu⟩ := hQ20
    have N0 := Fr.app N0 N20q
    have E_em := E_em.keep K20
    have V_em := V_em.keep K20 (ninS ne_em_bu nin0)
    have V_de := V_de.keep K20 (ninS ne_de_bu nin0)
    have V_fa := V_fa.keep K20 (ninS ne_fa_bu nin0)
    have E_se := E_se.keep K20
    have V_se := V_se.keep K20 (ninS ne_se_bu nin0)
    have E_bu := E_bu.keep K20
    have V_r1 := V_r1.keep K20 (ninS (Ne.symm ne_bu_r1) nin0)
    have Z0 := Nat.le_trans Z0 K20.1
    have O0 := O0.keep K20 (allS g_bu all0)
    refine oS (B := T20.setTop (mkF m 168 #[iv p0, iv p1, iv p2, iv p3, iv p4, iv bg, iv n1, rv fa, iv 0, rv se, rv bu, rv r1, .unset, .unset] [])) (fun t k => st20.trans k) ?_
    refine oS (B := T20.setTop (mkF m 170 #[iv p0, iv p1, iv p2, iv p3, iv p4, iv bg, iv n1, rv fa, iv 0, rv se, rv bu, rv r1, .unset, .unset] [(.ref bu)])) (fun t k => XS.aload X20.here hx rfl (hb hby at_168) rfl rfl k) ?_
    obtain ⟨cq21, kq21, q21a, q21b, q21c⟩ := isOf hZ rfl E_bu
    obtain ⟨_, _, ⟨T21, L21, k21, n21⟩, -, X21, ⟨Lc21, hQ21, l21, y21, z21⟩, st21⟩ := X20.virtualBack hx (y := (⟨"com/example/loomwire/loomwire/transport/MessageBuffer", "length", "()I"⟩ : MethodName)) (z := (⟨"com/example/loomwire/loomwire/transport/MessageBuffer", "length", "()I"⟩ : MethodName)) hown (mvT hZ (ow hw 30 rfl)) (mvT hZ (ow hw 31 rfl)) (notFace_of_selects (args := #[]) (mvT hZ (ow hw 33 rfl))) (mvT hZ (ow hw 33 rfl)) (mvT hZ (ow hw 32 rfl)) (by decide) (backOf (W := 0) (rm5 l Z a0 hw [] bu (0 : Int32) T20.heap n0 Z0 F_length_bu) hZ (ow hw 34 rfl) (ow hw 3 rfl) (by decide) (by decide)) q21a q21c (g := (mkF m 170 #[iv p0, iv p1, iv p2, iv p3, iv p4, iv bg, iv n1, rv fa, iv 0, rv se, rv bu, rv r1, .unset, .unset] [(.ref bu)])) rfl (by rw [hml]; rfl) (Steps.refl _) (argsL := []) (rest := []) (lenOf pd_9 rfl) rfl (by show 2 * 0 + _ ≤ _; exact Nat.le_of_eq rfl) (hb hby at_170) (fun _ _ => ⟨rfl, rfl, (by decide : 9 + 0 ≤ _), (by decide : 131100 + 0 ≤ _)⟩)
    dsimp only [Pt.U, Pt.locs, Pt.cells, Pt.slots] at X21 l21 y21 z21 st21 hQ21
    subst l21 y21 z21
    obtain ⟨rfl, N21q, e21⟩ := hQ21
    have N0 := Fr.app N0 N21q
    refine oS (B := T21.setTop (mkF m 173 #[iv p0, iv p1, iv p2, iv p3, iv p4, iv bg, iv n1, rv fa, iv 0, rv se, rv bu, rv r1, .unset, .unset] [(.int 0)])) (fun t k => st21.trans k) ?_
    refine oS (B := T21.setTop (mkF m 175 #[iv p0, iv p1, iv p2, iv p3, iv p4, iv bg, iv n1, rv fa, iv 0, rv se, rv bu, rv r1, .unset, .unset] [(.int 0), (.int 0)])) (fun t k => XS.iload X21.here hx rfl (hb hby at_173) rfl k) ?_
    refine oS (B := T21.setTop (mkF m 180 #[iv p0, iv p1, iv p2, iv p3, iv p4, iv bg, iv n1, rv fa, iv 0, rv se, rv bu, rv r1, .unset, .unset] [])) (fun t k => XS.icmpYes X21.here hx rfl (pc0 := 175) (pc' := 180) rfl (hb hby at_175) rfl (teq rfl).1 (by decide) (by decide) k) ?_
    refine oS (B := T21.setTop (mkF m 182 #[iv p0, iv p1, iv p2, iv p3, iv p4, iv bg, iv n1, rv fa, iv 0, rv se, rv bu, rv r1, .unset, .unset] [(.ref bu)])) (fun t k => XS.aload X21.here hx rfl (hb hby at_180) rfl rfl k) ?_
    have lt_fa := V_fa.lt
    have lt_se := E_se.lt
    have lt_bu := E_bu.lt
    have lt_r1 := V_r1.lt
    obtain ⟨cq22, kq22, q22a, q22b, q22c⟩ := isOf hZ e21 E_bu
    obtain ⟨_, _, ⟨T22, L22, k22, n22⟩, -, X22, ⟨Lc22, hQ22, l22, y22, z22⟩, st22⟩ := X21.virtualBack hx (y := (⟨"com/example/loomwire/loomwire/transport/MessageBuffer", "toArray", "()[B"⟩ : MethodName)) (z := (⟨"com/example/loomwire/loomwire/transport/MessageBuffer", "toArray", "()[B"⟩ : MethodName)) hown (mvT hZ (ow hw 35 rfl)) (mvT hZ (ow hw 36 rfl)) (notFace_of_selects (args := #[]) (mvT hZ (ow hw 38 rfl))) (mvT hZ (ow hw 38 rfl)) (mvT hZ (ow hw 37 rfl)) (by decide) (backOf (W := 0) (rmta l Z a0 hw [] bu em _ _ (0 : Int32) T20.heap n0 Z0 F_full_bu F_last_bu F_lastLength_bu E_em V_em (by decide)) hZ (ow hw 39 rfl) (ow hw 3 rfl) (by decide) (by decide)) q22a q22c (g := (mkF m 182 #[iv p0, iv p1, iv p2, iv p3, iv p4, iv bg, iv n1, rv fa, iv 0, rv se, rv bu, rv r1, .unset, .unset] [(.ref bu)])) rfl (by rw [hml]; rfl) (Steps.refl _) (argsL := []) (rest := []) (lenOf pd_10 rfl) rfl (by show 2 * 0 + _ ≤ _; exact Nat.le_of_eq rfl) (hb hby at_182) (fun _ _ => ⟨rfl, e21, (by decide : 9 + 1 ≤ _), (by decide : 131100 + 3 ≤ _)⟩)
    dsimp only [Pt.U, Pt.locs, Pt.cells, Pt.slots] at X22 l22 y22 z22 st22 hQ22
    subst l22 y22 z22
    obtain ⟨r2, kr2, vr2, rfl, N22q, K22, g_r2, sz'_r2, V_r2, hv_r2⟩ := hQ22
    have N0 := Fr.app N0 N22q
    have E_em := E_em.keep K22
    have V_em := V_em.keep K22 nin0
    have V_de := V_de.keep K22 nin0
    have V_fa := V_fa.keep K22 nin0
    have E_se := E_se.keep K22
    have V_se := V_se.keep K22 nin0
    have E_bu := E_bu.keep K22
    have V_r1 := V_r1.keep K22 nin0
    have F_full_bu := F_full_bu.keep K22 nin0
    have F_last_bu := F_last_bu.keep K22 nin0
    have F_lastLength_bu := F_lastLength_bu.keep K22 nin0
    have F_length_bu := F_length_bu.keep K22 nin0
    have Z0 := Nat.le_trans Z0 K22.1
    have O0 := O0.keep K22 all0
    have ne_fa_r2 : fa ≠ r2 := Nat.ne_of_lt (Nat.lt_of_lt_of_le lt_fa sz'_r2)
    have ne_se_r2 : se ≠ r2 := Nat.ne_of_lt (Nat.lt_of_lt_of_le lt_se sz'_r2)
    have ne_bu_r2 : bu ≠ r2 := Nat.ne_of_lt (Nat.lt_of_lt_of_le lt_bu sz'_r2)
    have ne_r1_r2 : r1 ≠ r2 := Nat.ne_of_lt (Nat.lt_of_lt_of_le lt_r1 sz'_r2)
    refine oS (B := T22.setTop (mkF m 185 #[iv p0, iv p1, iv p2, iv p3, iv p4, iv bg, iv n1, rv fa, iv 0, rv se, rv bu, rv r1, .unset, .unset] [(.ref r2)])) (fun t k => st22.trans k) ?_
    refine oS (B := T22.setTop (mkF m 187 #[iv p0, iv p1, iv p2, iv p3, iv p4, iv bg, iv n1, rv fa, iv 0, rv se, rv bu, rv r1, rv r2, .unset] [])) (fun t k => XS.astore X22.here hx rfl (hb hby at_185) rfl rfl (l' := #[iv p0, iv p1, iv p2, iv p3, iv p4, iv bg, iv n1, rv fa, iv 0, rv se, rv bu, rv r1, rv r2, .unset]) rfl k) ?_
    refine oS (B := T22.setTop (mkF m 189 #[iv p0, iv p1, iv p2, iv p3, iv p4, iv bg, iv n1, rv fa, iv 0, rv se, rv bu, rv r1, rv r2, .unset] [(.ref r2)])) (fun t k => XS.aload X22.here hx rfl (hb hby at_187) rfl rfl k) ?_
    have Vo_23 := V_r2
    obtain ⟨cl_23, Ar_23, q_23, S_23, M_23, H_23, G_23⟩ := Vo_23
    refine oS (B := T22.setTop (mkF m 190 #[iv p0, iv p1, iv p2, iv p3, iv p4, iv bg, iv n1, rv fa, iv 0, rv se, rv bu, rv r1, rv r2, .unset] [(.int 0)])) (fun t k => X22.arraylength hx Ar_23.1 (State.isArrayOf_alike hZ.alike Ar_23.2.1) (g := (mkF m 189 #[iv p0, iv p1, iv p2, iv p3, iv p4, iv bg, iv n1, rv fa, iv 0, rv se, rv bu, rv r1, rv r2, .unset] [(.ref r2)])) rfl rfl (hb hby at_189) t (by rw [len_of S_23 M_23]; exact k)) ?_
    refine oS (B := T22.setTop (mkF m 192 #[iv p0, iv p1, iv p2, iv p3, iv p4, iv bg, iv n1, rv fa, iv 0, rv se, rv bu, rv r1, rv r2, .unset] [(.int 0), (.int 0)])) (fun t k => XS.iload X22.here hx rfl (hb hby at_190) rfl k) ?_
    refine oS (B := T22.setTop (mkF m 197 #[iv p0, iv p1, iv p2, iv p3, iv p4, iv bg, iv n1, rv fa, iv 0, rv se, rv bu, rv r1, rv r2, .unset] [])) (fun t k => XS.icmpYes X22.here hx rfl (pc0 := 192) (pc' := 197) rfl (hb hby at_192) rfl (teq rfl).1 (by decide) (by decide) k) ?_
    refine oS (B := T22.setTop (mkF m 198 #[iv p0, iv p1, iv p2, iv p3, iv p4, iv bg, iv n1, rv fa, iv 0, rv se, rv bu, rv r1, rv r2, .unset] [(.int 1)])) (fun t k => XS.iconst X22.here hx rfl (hb hby at_197) k) ?_
    refine oS (B := T22.setTop (mkF m 200 #[iv p0, iv p1, iv p2, iv p3, iv p4, iv bg, iv n1, rv fa, iv 0, rv se, rv bu, rv r1, rv r2, iv 1] [])) (fun t k => XS.istore X22.here hx rfl (hb hby at_198) rfl (l' := #[iv p0, iv p1, iv p2, iv p3, iv p4, iv bg, iv n1, rv fa, iv 0, rv se, rv bu, rv r1, rv r2, iv 1]) rfl k) ?_
    refine oS (B := T22.setTop (mkF m 202 #[iv p0, iv p1, iv p2, iv p3, iv p4, iv bg, iv n1, rv fa, iv 0, rv se, rv bu, rv r1, rv r2, iv 1] [(.int 0)])) (fun t k => XS.iload X22.here hx rfl (hb hby at_200) rfl k) ?_
    refine oS (B := T22.setTop (mkF m 228 #[iv p0, iv p1, iv p2, iv p3, iv p4, iv bg, iv n1, rv fa, iv 0, rv se, rv bu, rv r1, rv r2, iv 1] [])) (fun t k => XS.ifYes X22.here hx rfl (pc0 := 202) (pc' := 228) rfl (hb hby at_202) rfl ((if0 _ _).trans (flt (by decide)).2.2.2) (by decide) (by decide) k) ?_
    refine oS (B := T22.setTop (mkF m 230 #[iv p0, iv p1, iv p2, iv p3, iv p4, iv bg, iv n1, rv fa, iv 0, rv se, rv bu, rv r1, rv r2, iv 1] [(.int 0)])) (fun t k => XS.iload X22.here hx rfl (hb hby at_228) rfl k) ?_
    refine oS (B := T22.setTop (mkF m 231 #[iv p0, iv p1, iv p2, iv p3, iv p4, iv bg, iv n1, rv fa, iv 0, rv se, rv bu, rv r1, rv r2, iv 1] [(.int 1), (.int 0)])) (fun t k => XS.iconst X22.here hx rfl (hb hby at_230) k) ?_
    refine oS (B := T22.setTop (mkF m 257 #[iv p0, iv p1, iv p2, iv p3, iv p4, iv bg, iv n1, rv fa, iv 0, rv se, rv bu, rv r1, rv r2, iv 1] [])) (fun t k => XS.icmpYes X22.here hx rfl (pc0 := 231) (pc' := 257) rfl (hb hby at_231) rfl (flt (by decide)).2.2.2 (by decide) (by decide) k) ?_
    refine oS (B := T22.setTop (mkF m 259 #[iv p0, iv p1, iv p2, iv p3, iv p4, iv bg, iv n1, rv fa, iv 0, rv se, rv bu, rv r1, rv r2, iv 1] [(.int 0)])) (fun t k => XS.iload X22.here hx rfl (hb hby at_257) rfl k) ?_
    refine oS (B := T22.setTop (mkF m 260 #[iv p0, iv p1, iv p2, iv p3, iv p4, iv bg, iv n1, rv fa, iv 0, rv se, rv bu, rv r1, rv r2, iv 1] [(.int 2), (.int 0)])) (fun t k => XS.iconst X22.here hx rfl (hb hby at_259) k) ?_
    refine oS (B := T22.setTop (mkF m 286 #[iv p0, iv p1, iv p2, iv p3, iv p4, iv bg, iv n1, rv fa, iv 0, rv se, rv bu, rv r1, rv r2, iv 1] [])) (fun t k => XS.icmpYes X22.here hx rfl (pc0 := 260) (pc' := 286) rfl (hb hby at_260) rfl (flt (by decide)).2.2.2 (by decide) (by decide) k) ?_
    refine oS (B := T22.setTop (mkF m 288 #[iv p0, iv p1, iv p2, iv p3, iv p4, iv bg, iv n1, rv fa, iv 0, rv se, rv bu, rv r1, rv r2, iv 1] [(.int 1)])) (fun t k => XS.iload X22.here hx rfl (hb hby at_286) rfl k) ?_
    exact own_retN X22 hx hlk (t := .boolean) Bd.returns (by simp) (hb hby at_288) (by decide) (by decide) (by exact ⟨rfl, N0⟩)
  · skip
    refine oS (B := T11.setTop (mkF m 72 #[iv p0, iv p1, iv p2, iv p3, iv p4, iv bg, iv n1, rv fa, iv 1, .unset, .unset, .unset, .unset, .unset] [(.int 1)])) (fun t k => XS.iload X11.here hx rfl (hb hby at_70) rfl k) ?_
    obtain ⟨T24, h24, k24, X24, e24, E24, A24, EE24, st24⟩ := newPE X11 hx hZ (ow hw 0 rfl) e11 (g := (mkF m 72 #[iv p0, iv p1, iv p2, iv p3, iv p4, iv bg, iv n1, rv fa, iv 1, .unset, .unset, .unset, .unset, .unset] [(.int 1)])) rfl (hb hby at_72) rfl (by decide) (cap := 1) (by decide) (by decide) (by decide) (by decide) (ad := "[B") rfl
    obtain ⟨se, g24⟩ : ∃ z, z = H11.size := ⟨_, rfl⟩
    rw [← g24] at A24 EE24 st24
    have g_se : n0 ≤ se := Nat.le_trans Z0 (Nat.le_of_eq g24.symm)
    have ne_em_se : em ≠ se := Nat.ne_of_lt (Nat.lt_of_lt_of_le E_em.lt (Nat.le_of_eq g24.symm))
    have ne_de_se : de ≠ se := Nat.ne_of_lt (Nat.lt_of_lt_of_le V_de.lt (Nat.le_of_eq g24.symm))
    have ne_fa_se : fa ≠ se := Nat.ne_of_lt (Nat.lt_of_lt_of_le V_fa.lt (Nat.le_of_eq g24.symm))
    have E_em := E_em.ext E24
    have V_em := V_em.ext E24
    have V_de := V_de.ext E24
    have V_fa := V_fa.ext E24
    have Z0 := Nat.le_trans Z0 E24.1
    have O0 := O0.ext E24
    have E_se := EE24
    have K_se := A24
    have V_se : Arv Z h24 se k24 .byte (1 : Int32) [(.int 0)] (.int 0) := (Arv.new A24 (by decide)).pad (pad_rep [] (.int 0) 1)
    refine oS (B := T24.setTop (mkF m 74 #[iv p0, iv p1, iv p2, iv p3, iv p4, iv bg, iv n1, rv fa, iv 1, .unset, .unset, .unset, .unset, .unset] [(.ref se)])) (fun t k => st24 t k) ?_
    refine oS (B := T24.setTop (mkF m 76 #[iv p0, iv p1, iv p2, iv p3, iv p4, iv bg, iv n1, rv fa, iv 1, rv se, .unset, .unset, .unset, .unset] [])) (fun t k => XS.astore X24.here hx rfl (hb hby at_74) rfl rfl (l' := #[iv p0, iv p1, iv p2, iv p3, iv p4, iv bg, iv n1, rv fa, iv 1, rv se, .unset, .unset, .unset, .unset]) rfl k) ?_
    refine oS (B := T24.setTop (mkF m 78 #[iv p0, iv p1, iv p2, iv p3, iv p4, iv bg, iv n1, rv fa, iv 1, rv se, .unset, .unset, .unset, .unset] [(.int 1)])) (fun t k => XS.iload X24.here hx rfl (hb hby at_76) rfl k) ?_
    refine oS (B := T24.setTop (mkF m 81 #[iv p0, iv p1, iv p2, iv p3, iv p4, iv bg, iv n1, rv fa, iv 1, rv se, .unset, .unset, .unset, .unset] [])) (fun t k => XS.ifNo X24.here hx rfl (hb hby at_78) rfl ((if0 _ _).trans (tlt (by decide)).2.2.2) k) ?_
    refine oS (B := T24.setTop (mkF m 83 #[iv p0, iv p1, iv p2, iv p3, iv p4, iv bg, iv n1, rv fa, iv 1, rv se, .unset, .unset, .unset, .unset] [(.ref se)])) (fun t k => XS.aload X24.here hx rfl (hb hby at_81) rfl rfl k) ?_
    refine oS (B := T24.setTop (mkF m 84 #[iv p0, iv p1, iv p2, iv p3, iv p4, iv bg, iv n1, rv fa, iv 1, rv se, .unset, .unset, .unset, .unset] [(.int 0), (.ref se)])) (fun t k => XS.iconst X24.here hx rfl (hb hby at_83) k) ?_
    refine oS (B := T24.setTop (mkF m 85 #[iv p0, iv p1, iv p2, iv p3, iv p4, iv bg, iv n1, rv fa, iv 1, rv se, .unset, .unset, .unset, .unset] [(.int p3), (.int 0), (.ref se)])) (fun t k => XS.iloadN X24.here hx rfl (hb hby at_84) rfl k) ?_
    refine oS (B := T24.setTop (mkF m 86 #[iv p0, iv p1, iv p2, iv p3, iv p4, iv bg, iv n1, rv fa, iv 1, rv se, .unset, .unset, .unset, .unset] [(.int (p3.toInt8.toInt32)), (.int 0), (.ref se)])) (fun t k => XS.i2b X24.here hx rfl (hb hby at_85) rfl k) ?_
    have Vo_25 := V_se
    obtain ⟨cl_25, Ar_25, q_25, S_25, M_25, H_25, G_25⟩ := Vo_25
    have hin26 : ¬ ((0 : Int32) < 0 ∨ cl_25.slots.size ≤ ((0 : Int32)).toNatClampNeg) := inb_of S_25 ⟨by decide, by decide⟩
    obtain ⟨T26, h26, X26, e26, W26, st26⟩ := stB X24 hx hZ e24 Ar_25 (j := (0 : Int32)) hin26 (g := (mkF m 86 #[iv p0, iv p1, iv p2, iv p3, iv p4, iv bg, iv n1, rv fa, iv 1, rv se, .unset, .unset, .unset, .unset] [(.int (p3.toInt8.toInt32)), (.int 0), (.ref se)])) rfl rfl (hb hby at_86)
    have E_em := E_em.wr W26
    have V_em := V_em.other W26 ne_em_se
    have V_de := V_de.other W26 ne_de_se
    have V_fa := V_fa.other W26 ne_fa_se
    have E_se := E_se.wr W26
    have Z0 := Nat.le_trans Z0 (Keep.of_wr W26).1
    have N0 := Fr.snoc X26 N0 g_se
    have O0 := O0.wr W26 g_se
    have V_se := Arv.set Ar_25 q_25 S_25 M_25 H_25 G_25 (fits_nar_byte _) W26 0 rfl (Nat.le_of_ble_eq_true rfl)
    change Arv Z h26 se k24 .byte (1 : Int32) [(.int (nar .byte (p3.toInt8.toInt32)))] (.int 0) at V_se
    refine oS (B := T26.setTop (mkF m 87 #[iv p0, iv p1, iv p2, iv p3, iv p4, iv bg, iv n1, rv fa, iv 1, rv se, .unset, .unset, .unset, .unset] [])) (fun t k => st26 t k) ?_
    refine oS (B := T26.setTop (mkF m 89 #[iv p0, iv p1, iv p2, iv p3, iv p4, iv bg, iv n1, rv fa, iv 1, rv se, .unset, .unset, .unset, .unset] [(.int 1)])) (fun t k => XS.iload X26.here hx rfl (hb hby at_87) rfl k) ?_
    refine oS (B := T26.setTop (mkF m 90 #[iv p0, iv p1, iv p2, iv p3, iv p4, iv bg, iv n1, rv fa, iv 1, rv se, .unset, .unset, .unset, .unset] [(.int 1), (.int 1)])) (fun t k => XS.iconst X26.here hx rfl (hb hby at_89) k) ?_
    refine oS (B := T26.setTop (mkF m 102 #[iv p0, iv p1, iv p2, iv p3, iv p4, iv bg, iv n1, rv fa, iv 1, rv se, .unset, .unset, .unset, .unset] [])) (fun t k => XS.icmpYes X26.here hx rfl (pc0 := 90) (pc' := 102) rfl (hb hby at_90) rfl (flt (by decide)).2.2.2 (by decide) (by decide) k) ?_
    refine oS (B := T26.setTop (mkF m 104 #[iv p0, iv p1, iv p2, iv p3, iv p4, iv bg, iv n1, rv fa, iv 1, rv se, .unset, .unset, .unset, .unset] [(.int 1)])) (fun t k => XS.iload X26.here hx rfl (hb hby at_102) rfl k) ?_
    refine oS (B := T26.setTop (mkF m 105 #[iv p0, iv p1, iv p2, iv p3, iv p4, iv bg, iv n1, rv fa, iv 1, rv se, .unset, .unset, .unset, .unset] [(.int 2), (.int 1)])) (fun t k => XS.iconst X26.here hx rfl (hb hby at_104) k) ?_
    refine oS (B := T26.setTop (mkF m 115 #[iv p0, iv p1, iv p2, iv p3, iv p4, iv bg, iv n1, rv fa, iv 1, rv se, .unset, .unset, .unset, .unset] [])) (fun t k => XS.icmpYes X26.here hx rfl (pc0 := 105) (pc' := 115) rfl (hb hby at_105) rfl (flt (by decide)).2.2.2 (by decide) (by decide) k) ?_
    obtain ⟨T27, h27, X27, e27, E27, A27, D27, -, st27⟩ := newO X26 hx hZ hown (ow hw 1 rfl) (ow hw 2 rfl) (ow hw 3 rfl) e26 (g := (mkF m 115 #[iv p0, iv p1, iv p2, iv p3, iv p4, iv bg, iv n1, rv fa, iv 1, rv se, .unset, .unset, .unset, .unset] [])) rfl (hb hby at_115) (by decide) (by decide)
    obtain ⟨bu, g27⟩ : ∃ z, z = h26.size := ⟨_, rfl⟩
    rw [← g27] at A27 D27 st27
    have g_bu : n0 ≤ bu := Nat.le_trans Z0 (Nat.le_of_eq g27.symm)
    have ne_em_bu : em ≠ bu := Nat.ne_of_lt (Nat.lt_of_lt_of_le E_em.lt (Nat.le_of_eq g27.symm))
    have ne_de_bu : de ≠ bu := Nat.ne_of_lt (Nat.lt_of_lt_of_le V_de.lt (Nat.le_of_eq g27.symm))
    have ne_fa_bu : fa ≠ bu := Nat.ne_of_lt (Nat.lt_of_lt_of_le V_fa.lt (Nat.le_of_eq g27.symm))
    have ne_se_bu : se ≠ bu := Nat.ne_of_lt (Nat.lt_of_lt_of_le E_se.lt (Nat.le_of_eq g27.symm))
    have E_em := E_em.ext E27
    have V_em := V_em.ext E27
    have V_de := V_de.ext E27
    have V_fa := V_fa.ext E27
    have E_se := E_se.ext E27
    have V_se := V_se.ext E27
    have Z0 := Nat.le_trans Z0 E27.1
    have O0 := O0.ext E27
    have E_bu := A27
    have F_last_bu : Fld Z h27 bu "com/example/loomwire/loomwire/transport/MessageBuffer" "last" "[B" .null := D27 (Or.inl (ow hw 13 rfl)) (ty := (.array .byte)) (by decide)
    have F_length_bu : Fld Z h27 bu "com/example/loomwire/loomwire/transport/MessageBuffer" "length" "I" (.int 0) := D27 (Or.inl (ow hw 20 rfl)) (ty := .int) (by decide)
    have F_full_bu : Fld Z h27 bu "com/example/loomwire/loomwire/transport/MessageBuffer" "full" "Ljava/util/List;" .null := D27 (Or.inl (ow hw 27 rfl)) (ty := (.object "java/util/List")) (by decide)
    have F_lastLength_bu : Fld Z h27 bu "com/example/loomwire/loomwire/transport/MessageBuffer" "lastLength" "I" (.int 0) := D27 (Or.inl (ow hw 29 rfl)) (ty := .int) (by decide)
    refine oS (B := T27.setTop (mkF m 118 #[iv p0, iv p1, iv p2, iv p3, iv p4, iv bg, iv n1, rv fa, iv 1, rv se, .unset, .unset, .unset, .unset] [(.ref bu)])) (fun t k => st27 t k) ?_
    refine oS (B := T27.setTop (mkF m 119 #[iv p0, iv p1, iv p2, iv p3, iv p4, iv bg, iv n1, rv fa, iv 1, rv se, .unset, .unset, .unset, .unset] [(.ref bu), (.ref bu)])) (fun t k => XS.dup X27.here hx rfl (hb hby at_118) rfl rfl k) ?_
    obtain ⟨_, _, ⟨T28, L28, k28, n28⟩, -, X28, ⟨Lc28, hQ28, l28, y28, z28⟩, st28⟩ := X27.specialBack hx (y := (⟨"com/example/loomwire/loomwire/transport/MessageBuffer", "<init>", "()V"⟩ : MethodName)) rfl hown (mvT hZ (ow hw 4 rfl)) (mvT hZ (ow hw 5 rfl)) (mvT hZ (ow hw 6 rfl)) (by decide) (backOf (W := 1) (rm1 l Z a0 hw [] bu em ke de kd h27 n0 Z0 E_bu g_bu F_full_bu F_last_bu F_lastLength_bu F_length_bu BB O0) hZ (ow hw 6 rfl) (ow hw 3 rfl) (by decide) (by decide)) (g := (mkF m 119 #[iv p0, iv p1, iv p2, iv p3, iv p4, iv bg, iv n1, rv fa, iv 1, rv se, .unset, .unset, .unset, .unset] [(.ref bu), (.ref bu)])) rfl (by rw [hml]; rfl) (Steps.refl _) (a := bu) (argsL := []) (rest := [(.ref bu)]) (lenOf pd_2 rfl) rfl (by show 2 * 0 + _ ≤ _; exact Nat.le_of_eq rfl) (hb hby at_119) (fun _ _ => ⟨rfl, e27, (by decide : 3 + 0 ≤ _), (by decide : 65543 + 0 ≤ _)⟩)
    dsimp only [Pt.U, Pt.locs, Pt.cells, Pt.slots] at X28 l28 y28 z28 st28 hQ28
    subst l28 y28 z28
    obtain ⟨rfl, N28q, K28, G0_28, G1_28, G2_28, G3_28⟩ := hQ28
    have N0 := Fr.app N0 N28q
    have E_em := E_em.keep K28
    have V_em := V_em.keep K28 (ninS ne_em_bu nin0)
    have V_de := V_de.keep K28 (ninS ne_de_bu nin0)
    have V_fa := V_fa.keep K28 (ninS ne_fa_bu nin0)
    have E_se := E_se.keep K28
    have V_se := V_se.keep K28 (ninS ne_se_bu nin0)
    have E_bu := E_bu.keep K28
    have Z0 := Nat.le_trans Z0 K28.1
    have O0 := O0.keep K28 (allS g_bu all0)
    have F_full_bu := G0_28
    have F_last_bu := G1_28
    have F_lastLength_bu := G2_28
    have F_length_bu := G3_28
    refine oS (B := T28.setTop (mkF m 122 #[iv p0, iv p1, iv p2, iv p3, iv p4, iv bg, iv n1, rv fa, iv 1, rv se, .unset, .unset, .unset, .unset] [(.ref bu)])) (fun t k => st28.trans k) ?_
    refine oS (B := T28.setTop (mkF m 124 #[iv p0, iv p1, iv p2, iv p3, iv p4, iv bg, iv n1, rv fa, iv 1, rv se, rv bu, .unset, .unset, .unset] [])) (fun t k => XS.astore X28.here hx rfl (hb hby at_122) rfl rfl (l' := #[iv p0, iv p1, iv p2, iv p3, iv p4, iv bg, iv n1, rv fa, iv 1, rv se, rv bu, .unset, .unset, .unset]) rfl k) ?_
    refine oS (B := T28.setTop (mkF m 126 #[iv p0, iv p1, iv p2, iv p3, iv p4, iv bg, iv n1, rv fa, iv 1, rv se, rv bu, .unset, .unset, .unset] [(.ref bu)])) (fun t k => XS.aload X28.here hx rfl (hb hby at_124) rfl rfl k) ?_
    refine oS (B := T28.setTop (mkF m 128 #[iv p0, iv p1, iv p2, iv p3, iv p4, iv bg, iv n1, rv fa, iv 1, rv se, rv bu, .unset, .unset, .unset] [(.ref fa), (.ref bu)])) (fun t k => XS.aload X28.here hx rfl (hb hby at_126) rfl rfl k) ?_
    obtain ⟨cq29, kq29, q29a, q29b, q29c⟩ := isOf hZ rfl E_bu
    obtain ⟨_, _, ⟨T29, L29, k29, n29⟩, -, X29, ⟨Lc29, hQ29, l29, y29, z29⟩, st29⟩ := X28.virtualBack hx (y := (⟨"com/example/loomwire/loomwire/transport/MessageBuffer", "append", "([B)V"⟩ : MethodName)) (z := (⟨"com/example/loomwire/loomwire/transport/MessageBuffer", "append", "([B)V"⟩ : MethodName)) hown (mvT hZ (ow hw 14 rfl)) (mvT hZ (ow hw 15 rfl)) (notFace_of_selects (args := #[]) (mvT hZ (ow hw 17 rfl))) (mvT hZ (ow hw 17 rfl)) (mvT hZ (ow hw 16 rfl)) (by decide) (backOf (W := 0) (rma l Z a0 hw [] bu fa em ke de kd _ _ n1 T28.heap n0 Z0 E_bu g_bu F_full_bu F_last_bu F_lastLength_bu F_length_bu BB O0 (Ne.symm ne_fa_bu) hn1 V_fa) hZ (ow hw 18 rfl) (ow hw 3 rfl) (by decide) (by decide)) q29a q29c (g := (mkF m 128 #[iv p0, iv p1, iv p2, iv p3, iv p4, iv bg, iv n1, rv fa, iv 1, rv se, rv bu, .unset, .unset, .unset] [(.ref fa), (.ref bu)])) rfl (by rw [hml]; rfl) (Steps.refl _) (argsL := [(.ref fa)]) (rest := []) (lenOf pd_8 rfl) rfl (by show 2 * 0 + _ ≤ _; exact Nat.le_of_eq rfl) (hb hby at_128) (fun _ _ => ⟨rfl, rfl, (by decide : 3 + 4 ≤ _), (by decide : 65543 + 65551 ≤ _)⟩)
    dsimp only [Pt.U, Pt.locs, Pt.cells, Pt.slots] at X29 l29 y29 z29 st29 hQ29
    subst l29 y29 z29
    obtain ⟨vf, vl, vll, vlen, rfl, N29q, K29, F_full_bu, F_last_bu, F_lastLength_bu, F_length_bu⟩ := hQ29
    have N0 := Fr.app N0 N29q
    have E_em := E_em.keep K29
    have V_em := V_em.keep K29 (ninS ne_em_bu nin0)
    have V_de := V_de.keep K29 (ninS ne_de_bu nin0)
    have V_fa := V_fa.keep K29 (ninS ne_fa_bu nin0)
    have E_se := E_se.keep K29
    have V_se := V_se.keep K29 (ninS ne_se_bu nin0)
    have E_bu := E_bu.keep K29
    have Z0 := Nat.le_trans Z0 K29.1
    have O0 := O0.keep K29 (allS g_bu all0)
    refine oS (B := T29.setTop (mkF m 131 #[iv p0, iv p1, iv p2, iv p3, iv p4, iv bg, iv n1, rv fa, iv 1, rv se, rv bu, .unset, .unset, .unset] [])) (fun t k => st29.trans k) ?_
    refine oS (B := T29.setTop (mkF m 133 #[iv p0, iv p1, iv p2, iv p3, iv p4, iv bg, iv n1, rv fa, iv 1, rv se, rv bu, .unset, .unset, .unset] [(.ref bu)])) (fun t k => XS.aload X29.here hx rfl (hb hby at_131) rfl rfl k) ?_
    obtain ⟨cq30, kq30, q30a, q30b, q30c⟩ := isOf hZ rfl E_bu
    obtain ⟨_, _, ⟨T30, L30, k30, n30⟩, -, X30, ⟨Lc30, hQ30, l30, y30, z30⟩, st30⟩ := X29.virtualBack hx (y := (⟨"com/example/loomwire/loomwire/transport/MessageBuffer", "clear", "()V"⟩ : MethodName)) (z := (⟨"com/example/loomwire/loomwire/transport/MessageBuffer", "clear", "()V"⟩ : MethodName)) hown (mvT hZ (ow hw 21 rfl)) (mvT hZ (ow hw 22 rfl)) (notFace_of_selects (args := #[]) (mvT hZ (ow hw 24 rfl))) (mvT hZ (ow hw 24 rfl)) (mvT hZ (ow hw 23 rfl)) (by decide) (backOf (W := 0) (rm4 l Z a0 hw [] bu em ke de kd _ _ _ _ T29.heap n0 Z0 E_bu g_bu F_full_bu F_last_bu F_lastLength_bu F_length_bu BB O0) hZ (ow hw 25 rfl) (ow hw 3 rfl) (by decide) (by decide)) q30a q30c (g := (mkF m 133 #[iv p0, iv p1, iv p2, iv p3, iv p4, iv bg, iv n1, rv fa, iv 1, rv se, rv bu, .unset, .unset, .unset] [(.ref bu)])) rfl (by rw [hml]; rfl) (Steps.refl _) (argsL := []) (rest := []) (lenOf pd_2 rfl) rfl (by show 2 * 0 + _ ≤ _; exact Nat.le_of_eq rfl) (hb hby at_133) (fun _ _ => ⟨rfl, rfl, (by decide : 7 + 0 ≤ _), (by decide : 131094 + 0 ≤ _)⟩)
    dsimp only [Pt.U, Pt.locs, Pt.cells, Pt.slots] at X30 l30 y30 z30 st30 hQ30
    subst l30 y30 z30
    obtain ⟨rfl, N30q, K30, G0_30, G1_30, G2_30, G3_30⟩ := hQ30
    have N0 := Fr.app N0 N30q
    have E_em := E_em.keep K30
    have V_em := V_em.keep K30 (ninS ne_em_bu nin0)
    have V_de := V_de.keep K30 (ninS ne_de_bu nin0)
    have V_fa := V_fa.keep K30 (ninS ne_fa_bu nin0)
    have E_se := E_se.keep K30
    have V_se := V_se.keep K30 (ninS ne_se_bu nin0)
    have E_bu := E_bu.keep K30
    have Z0 := Nat.le_trans Z0 K30.1
    have O0 := O0.keep K30 (allS g_bu all0)
    have F_full_bu := G0_30
    have F_last_bu := G1_30
    have F_lastLength_bu := G2_30
    have F_length_bu := G3_30
    refine oS (B := T30.setTop (mkF m 136 #[iv p0, iv p1, iv p2, iv p3, iv p4, iv bg, iv n1, rv fa, iv 1, rv se, rv bu, .unset, .unset, .unset] [])) (fun t k => st30.trans k) ?_
    refine oS (B := T30.setTop (mkF m 138 #[iv p0, iv p1, iv p2, iv p3, iv p4, iv bg, iv n1, rv fa, iv 1, rv se, rv bu, .unset, .unset, .unset] [(.ref bu)])) (fun t k => XS.aload X30.here hx rfl (hb hby at_136) rfl rfl k) ?_
    obtain ⟨cq31, kq31, q31a, q31b, q31c⟩ := isOf hZ rfl E_bu
    obtain ⟨_, _, ⟨T31, L31, k31, n31⟩, -, X31, ⟨Lc31, hQ31, l31, y31, z31⟩, st31⟩ := X30.virtualBack hx (y := (⟨"com/example/loomwire/loomwire/transport/MessageBuffer", "length", "()I"⟩ : MethodName)) (z := (⟨"com/example/loomwire/loomwire/transport/MessageBuffer", "length", "()I"⟩ : MethodName)) hown (mvT hZ (ow hw 30 rfl)) (mvT hZ (ow hw 31 rfl)) (notFace_of_selects (args := #[]) (mvT hZ (ow hw 33 rfl))) (mvT hZ (ow hw 33 rfl)) (mvT hZ (ow hw 32 rfl)) (by decide) (backOf (W := 0) (rm5 l Z a0 hw [] bu (0 : Int32) T30.heap n0 Z0 F_length_bu) hZ (ow hw 34 rfl) (ow hw 3 rfl) (by decide) (by decide)) q31a q31c (g := (mkF m 138 #[iv p0, iv p1, iv p2, iv p3, iv p4, iv bg, iv n1, rv fa, iv 1, rv se, rv bu, .unset, .unset, .unset] [(.ref bu)])) rfl (by rw [hml]; rfl) (Steps.refl _) (argsL := []) (rest := []) (lenOf pd_9 rfl) rfl (by show 2 * 0 + _ ≤ _; exact Nat.le_of_eq rfl) (hb hby at_138) (fun _ _ => ⟨rfl, rfl, (by decide : 7 + 0 ≤ _), (by decide : 131094 + 0 ≤ _)⟩)
    dsimp only [Pt.U, Pt.locs, Pt.cells, Pt.slots] at X31 l31 y31 z31 st31 hQ31
    subst l31 y31 z31
    obtain ⟨rfl, N31q, e31⟩ := hQ31
    have N0 := Fr.app N0 N31q
    refine oS (B := T31.setTop (mkF m 141 #[iv p0, iv p1, iv p2, iv p3, iv p4, iv bg, iv n1, rv fa, iv 1, rv se, rv bu, .unset, .unset, .unset] [(.int 0)])) (fun t k => st31.trans k) ?_
    refine oS (B := T31.setTop (mkF m 146 #[iv p0, iv p1, iv p2, iv p3, iv p4, iv bg, iv n1, rv fa, iv 1, rv se, rv bu, .unset, .unset, .unset] [])) (fun t k => XS.ifYes X31.here hx rfl (pc0 := 141) (pc' := 146) rfl (hb hby at_141) rfl ((if0 _ _).trans (teq rfl).1) (by decide) (by decide) k) ?_
    refine oS (B := T31.setTop (mkF m 148 #[iv p0, iv p1, iv p2, iv p3, iv p4, iv bg, iv n1, rv fa, iv 1, rv se, rv bu, .unset, .unset, .unset] [(.ref bu)])) (fun t k => XS.aload X31.here hx rfl (hb hby at_146) rfl rfl k) ?_
    have lt_fa := V_fa.lt
    have lt_se := E_se.lt
    have lt_bu := E_bu.lt
    obtain ⟨cq32, kq32, q32a, q32b, q32c⟩ := isOf hZ e31 E_bu
    obtain ⟨_, _, ⟨T32, L32, k32, n32⟩, -, X32, ⟨Lc32, hQ32, l32, y32, z32⟩, st32⟩ := X31.virtualBack hx (y := (⟨"com/example/loomwire/loomwire/transport/MessageBuffer", "toArray", "()[B"⟩ : MethodName)) (z := (⟨"com/example/loomwire/loomwire/transport/MessageBuffer", "toArray", "()[B"⟩ : MethodName)) hown (mvT hZ (ow hw 35 rfl)) (mvT hZ (ow hw 36 rfl)) (notFace_of_selects (args := #[]) (mvT hZ (ow hw 38 rfl))) (mvT hZ (ow hw 38 rfl)) (mvT hZ (ow hw 37 rfl)) (by decide) (backOf (W := 0) (rmta l Z a0 hw [] bu em _ _ (0 : Int32) T30.heap n0 Z0 F_full_bu F_last_bu F_lastLength_bu E_em V_em (by decide)) hZ (ow hw 39 rfl) (ow hw 3 rfl) (by decide) (by decide)) q32a q32c (g := (mkF m 148 #[iv p0, iv p1, iv p2, iv p3, iv p4, iv bg, iv n1, rv fa, iv 1, rv se, rv bu, .unset, .unset, .unset] [(.ref bu)])) rfl (by rw [hml]; rfl) (Steps.refl _) (argsL := []) (rest := []) (lenOf pd_10 rfl) rfl (by show 2 * 0 + _ ≤ _; exact Nat.le_of_eq rfl) (hb hby at_148) (fun _ _ => ⟨rfl, e31, (by decide : 7 + 1 ≤ _), (by decide : 131094 + 3 ≤ _)⟩)
    dsimp only [Pt.U, Pt.locs, Pt.cells, Pt.slots] at X32 l32 y32 z32 st32 hQ32
    subst l32 y32 z32
    obtain ⟨r1, kr1, vr1, rfl, N32q, K32, g_r1, sz'_r1, V_r1, hv_r1⟩ := hQ32
    have N0 := Fr.app N0 N32q
    have E_em := E_em.keep K32
    have V_em := V_em.keep K32 nin0
    have V_de := V_de.keep K32 nin0
    have V_fa := V_fa.keep K32 nin0
    have E_se := E_se.keep K32
    have V_se := V_se.keep K32 nin0
    have E_bu := E_bu.keep K32
    have F_full_bu := F_full_bu.keep K32 nin0
    have F_last_bu := F_last_bu.keep K32 nin0
    have F_lastLength_bu := F_lastLength_bu.keep K32 nin0
    have F_length_bu := F_length_bu.keep K32 nin0
    have Z0 := Nat.le_trans Z0 K32.1
    have O0 := O0.keep K32 all0
    have ne_fa_r1 : fa ≠ r1 := Nat.ne_of_lt (Nat.lt_of_lt_of_le lt_fa sz'_r1)
    have ne_se_r1 : se ≠ r1 := Nat.ne_of_lt (Nat.lt_of_lt_of_le lt_se sz'_r1)
    have ne_bu_r1 : bu ≠ r1 := Nat.ne_of_lt (Nat.lt_of_lt_of_le lt_bu sz'_r1)
    refine oS (B := T32.setTop (mkF m 151 #[iv p0, iv p1, iv p2, iv p3, iv p4, iv bg, iv n1, rv fa, iv 1, rv se, rv bu, .unset, .unset, .unset] [(.ref r1)])) (fun t k => st32.trans k) ?_
    refine oS (B := T32.setTop (mkF m 153 #[iv p0, iv p1, iv p2, iv p3, iv p4, iv bg, iv n1, rv fa, iv 1, rv se, rv bu, rv r1, .unset, .unset] [])) (fun t k => XS.astore X32.here hx rfl (hb hby at_151) rfl rfl (l' := #[iv p0, iv p1, iv p2, iv p3, iv p4, iv bg, iv n1, rv fa, iv 1, rv se, rv bu, rv r1, .unset, .unset]) rfl k) ?_
    refine oS (B := T32.setTop (mkF m 155 #[iv p0, iv p1, iv p2, iv p3, iv p4, iv bg, iv n1, rv fa, iv 1, rv se, rv bu, rv r1, .unset, .unset] [(.ref r1)])) (fun t k => XS.aload X32.here hx rfl (hb hby at_153) rfl rfl k) ?_
    have Vo_33 := V_r1
    obtain ⟨cl_33, Ar_33, q_33, S_33, M_33, H_33, G_33⟩ := Vo_33
    refine oS (B := T32.setTop (mkF m 156 #[iv p0, iv p1, iv p2, iv p3, iv p4, iv bg, iv n1, rv fa, iv 1, rv se, rv bu, rv r1, .unset, .unset] [(.int 0)])) (fun t k => X32.arraylength hx Ar_33.1 (State.isArrayOf_alike hZ.alike Ar_33.2.1) (g := (mkF m 155 #[iv p0, iv p1, iv p2, iv p3, iv p4, iv bg, iv n1, rv fa, iv 1, rv se, rv bu, rv r1, .unset, .unset] [(.ref r1)])) rfl rfl (hb hby at_155) t (by rw [len_of S_33 M_33]; exact k)) ?_
    refine oS (B := T32.setTop (mkF m 161 #[iv p0, iv p1, iv p2, iv p3, iv p4, iv bg, iv n1, rv fa, iv 1, rv se, rv bu, rv r1, .unset, .unset] [])) (fun t k => XS.ifYes X32.here hx rfl (pc0 := 156) (pc' := 161) rfl (hb hby at_156) rfl ((if0 _ _).trans (teq rfl).1) (by decide) (by decide) k) ?_
    refine oS (B := T32.setTop (mkF m 163 #[iv p0, iv p1, iv p2, iv p3, iv p4, iv bg, iv n1, rv fa, iv 1, rv se, rv bu, rv r1, .unset, .unset] [(.ref bu)])) (fun t k => XS.aload X32.here hx rfl (hb hby at_161) rfl rfl k) ?_
    refine oS (B := T32.setTop (mkF m 165 #[iv p0, iv p1, iv p2, iv p3, iv p4, iv bg, iv n1, rv fa, iv 1, rv se, rv bu, rv r1, .unset, .unset] [(.ref se), (.ref bu)])) (fun t k => XS.aload X32.here hx rfl (hb hby at_163) rfl rfl k) ?_
    have lt_fa := V_fa.lt
    have lt_se := E_se.lt
    have lt_bu := E_bu.lt
    have lt_r1 := V_r1.lt
    obtain ⟨cq34, kq34, q34a, q34b, q34c⟩ := isOf hZ rfl E_bu
    obtain ⟨_, _, ⟨T34, L34, k34, n34⟩, -, X34, ⟨Lc34, hQ34, l34, y34, z34⟩, st34⟩ := X32.virtualBack hx (y := (⟨"com/example/loomwire/loomwire/transport/MessageBuffer", "append", "([B)V"⟩ : MethodName)) (z := (⟨"com/example/loomwire/loomwire/transport/MessageBuffer", "append", "([B)V"⟩ : MethodName)) hown (mvT hZ (ow hw 14 rfl)) (mvT hZ (ow hw 15 rfl)) (notFace_of_selects (args := #[]) (mvT hZ (ow hw 17 rfl))) (mvT hZ (ow hw 17 rfl)) (mvT hZ (ow hw 16 rfl)) (by decide) (backOf (W := 0) (rms_1 l Z a0 hw [] bu se em ke de kd _ _ T32.heap n0 Z0 E_bu g_bu F_full_bu F_last_bu F_lastLength_bu F_length_bu BB O0 (Ne.symm ne_se_bu) V_se) hZ (ow hw 18 rfl) (ow hw 3 rfl) (by decide) (by decide)) q34a q34c (g := (mkF m 165 #[iv p0, iv p1, iv p2, iv p3, iv p4, iv bg, iv n1, rv fa, iv 1, rv se, rv bu, rv r1, .unset, .unset] [(.ref se), (.ref bu)])) rfl (by rw [hml]; rfl) (Steps.refl _) (argsL := [(.ref se)]) (rest := []) (lenOf pd_8 rfl) rfl (by show 2 * 0 + _ ≤ _; exact Nat.le_of_eq rfl) (hb hby at_165) (fun _ _ => ⟨rfl, rfl, (by decide : 8 + 1 ≤ _), (by decide : 131097 + 4 ≤ _)⟩)
    dsimp only [Pt.U, Pt.locs, Pt.cells, Pt.slots] at X34 l34 y34 z34 st34 hQ34
    subst l34 y34 z34
    obtain ⟨la, kla, vla, rfl, N34q, K34, F_full_bu, F_last_bu, F_lastLength_bu, F_length_bu, g_la, sz'_la, E_la, V_la, hv_la⟩ := hQ34
    have N0 := Fr.app N0 N34q
    have E_em := E_em.keep K34
    have V_em := V_em.keep K34 (ninS ne_em_bu nin0)
    have V_de := V_de.keep K34 (ninS ne_de_bu nin0)
    have V_fa := V_fa.keep K34 (ninS ne_fa_bu nin0)
    have E_se := E_se.keep K34
    have V_se := V_se.keep K34 (ninS ne_se_bu nin0)
    have E_bu := E_bu.keep K34
    have V_r1 := V_r1.keep K34 (ninS (Ne.symm ne_bu_r1) nin0)
    have Z0 := Nat.le_trans Z0 K34.1
    have O0 := O0.keep K34 (allS g_bu all0)
    have ne_fa_la : fa ≠ la := Nat.ne_of_lt (Nat.lt_of_lt_of_le lt_fa sz'_la)
    have ne_se_la : se ≠ la := Nat.ne_of_lt (Nat.lt_of_lt_of_le lt_se sz'_la)
    have ne_bu_la : bu ≠ la := Nat.ne_of_lt (Nat.lt_of_lt_of_le lt_bu sz'_la)
    have ne_r1_la : r1 ≠ la := Nat.ne_of_lt (Nat.lt_of_lt_of_le lt_r1 sz'_la)
    refine oS (B := T34.setTop (mkF m 168 #[iv p0, iv p1, iv p2, iv p3, iv p4, iv bg, iv n1, rv fa, iv 1, rv se, rv bu, rv r1, .unset, .unset] [])) (fun t k => st34.trans k) ?_
    refine oS (B := T34.setTop (mkF m 170 #[iv p0, iv p1, iv p2, iv p3, iv p4, iv bg, iv n1, rv fa, iv 1, rv se, rv bu, rv r1, .unset, .unset] [(.ref bu)])) (fun t k => XS.aload X34.here hx rfl (hb hby at_168) rfl rfl k) ?_
    obtain ⟨cq35, kq35, q35a, q35b, q35c⟩ := isOf hZ rfl E_bu
    obtain ⟨_, _, ⟨T35, L35, k35, n35⟩, -, X35, ⟨Lc35, hQ35, l35, y35, z35⟩, st35⟩ := X34.virtualBack hx (y := (⟨"com/example/loomwire/loomwire/transport/MessageBuffer", "length", "()I"⟩ : MethodName)) (z := (⟨"com/example/loomwire/loomwire/transport/MessageBuffer", "length", "()I"⟩ : MethodName)) hown (mvT hZ (ow hw 30 rfl)) (mvT hZ (ow hw 31 rfl)) (notFace_of_selects (args := #[]) (mvT hZ (ow hw 33 rfl))) (mvT hZ (ow hw 33 rfl)) (mvT hZ (ow hw 32 rfl)) (by decide) (backOf (W := 0) (rm5 l Z a0 hw [] bu (1 : Int32) T34.heap n0 Z0 F_length_bu) hZ (ow hw 34 rfl) (ow hw 3 rfl) (by decide) (by decide)) q35a q35c (g := (mkF m 170 #[iv p0, iv p1, iv p2, iv p3, iv p4, iv bg, iv n1, rv fa, iv 1, rv se, rv bu, rv r1, .unset, .unset] [(.ref bu)])) rfl (by rw [hml]; rfl) (Steps.refl _) (argsL := []) (rest := []) (lenOf pd_9 rfl) rfl (by show 2 * 0 + _ ≤ _; exact Nat.le_of_eq rfl) (hb hby at_170) (fun _ _ => ⟨rfl, rfl, (by decide : 9 + 0 ≤ _), (by decide : 131101 + 0 ≤ _)⟩)
    dsimp only [Pt.U, Pt.locs, Pt.cells, Pt.slots] at X35 l35 y35 z35 st35 hQ35
    subst l35 y35 z35
    obtain ⟨rfl, N35q, e35⟩ := hQ35
    have N0 := Fr.app N0 N35q
    refine oS (B := T35.setTop (mkF m 173 #[iv p0, iv p1, iv p2, iv p3, iv p4, iv bg, iv n1, rv fa, iv 1, rv se, rv bu, rv r1, .unset, .unset] [(.int 1)])) (fun t k => st35.trans k) ?_
    refine oS (B := T35.setTop (mkF m 175 #[iv p0, iv p1, iv p2, iv p3, iv p4, iv bg, iv n1, rv fa, iv 1, rv se, rv bu, rv r1, .unset, .unset] [(.int 1), (.int 1)])) (fun t k => XS.iload X35.here hx rfl (hb hby at_173) rfl k) ?_
    refine oS (B := T35.setTop (mkF m 180 #[iv p0, iv p1, iv p2, iv p3, iv p4, iv bg, iv n1, rv fa, iv 1, rv se, rv bu, rv r1, .unset, .unset] [])) (fun t k => XS.icmpYes X35.here hx rfl (pc0 := 175) (pc' := 180) rfl (hb hby at_175) rfl (teq rfl).1 (by decide) (by decide) k) ?_
    refine oS (B := T35.setTop (mkF m 182 #[iv p0, iv p1, iv p2, iv p3, iv p4, iv bg, iv n1, rv fa, iv 1, rv se, rv bu, rv r1, .unset, .unset] [(.ref bu)])) (fun t k => XS.aload X35.here hx rfl (hb hby at_180) rfl rfl k) ?_
    have lt_fa := V_fa.lt
    have lt_se := E_se.lt
    have lt_bu := E_bu.lt
    have lt_r1 := V_r1.lt
    have lt_la := E_la.lt
    obtain ⟨cq36, kq36, q36a, q36b, q36c⟩ := isOf hZ e35 E_bu
    obtain ⟨_, _, ⟨T36, L36, k36, n36⟩, -, X36, ⟨Lc36, hQ36, l36, y36, z36⟩, st36⟩ := X35.virtualBack hx (y := (⟨"com/example/loomwire/loomwire/transport/MessageBuffer", "toArray", "()[B"⟩ : MethodName)) (z := (⟨"com/example/loomwire/loomwire/transport/MessageBuffer", "toArray", "()[B"⟩ : MethodName)) hown (mvT hZ (ow hw 35 rfl)) (mvT hZ (ow hw 36 rfl)) (notFace_of_selects (args := #[]) (mvT hZ (ow hw 38 rfl))) (mvT hZ (ow hw 38 rfl)) (mvT hZ (ow hw 37 rfl)) (by decide) (backOf (W := 0) (rmta l Z a0 hw [] bu la _ _ (1 : Int32) T34.heap n0 Z0 F_full_bu F_last_bu F_lastLength_bu E_la V_la (by decide)) hZ (ow hw 39 rfl) (ow hw 3 rfl) (by decide) (by decide)) q36a q36c (g := (mkF m 182 #[iv p0, iv p1, iv p2, iv p3, iv p4, iv bg, iv n1, rv fa, iv 1, rv se, rv bu, rv r1, .unset, .unset] [(.ref bu)])) rfl (by rw [hml]; rfl) (Steps.refl _) (argsL := []) (rest := []) (lenOf pd_10 rfl) rfl (by show 2 * 0 + _ ≤ _; exact Nat.le_of_eq rfl) (hb hby at_182) (fun _ _ => ⟨rfl, e35, (by decide : 9 + 1 ≤ _), (by decide : 131101 + 3 ≤ _)⟩)
    dsimp only [Pt.U, Pt.locs, Pt.cells, Pt.slots] at X36 l36 y36 z36 st36 hQ36
    subst l36 y36 z36
    obtain ⟨r2, kr2, vr2, rfl, N36q, K36, g_r2, sz'_r2, V_r2, hv_r2⟩ := hQ36
    have N0 := Fr.app N0 N36q
    have E_em := E_em.keep K36
    have V_em := V_em.keep K36 nin0
    have V_de := V_de.keep K36 nin0
    have V_fa := V_fa.keep K36 nin0
    have E_se := E_se.keep K36
    have V_se := V_se.keep K36 nin0
    have E_bu := E_bu.keep K36
    have V_r1 := V_r1.keep K36 nin0
    have F_full_bu := F_full_bu.keep K36 nin0
    have F_last_bu := F_last_bu.keep K36 nin0
    have F_lastLength_bu := F_lastLength_bu.keep K36 nin0
    have F_length_bu := F_length_bu.keep K36 nin0
    have E_la := E_la.keep K36
    have V_la := V_la.keep K36 nin0
    have Z0 := Nat.le_trans Z0 K36.1
    have O0 := O0.keep K36 all0
    have ne_fa_r2 : fa ≠ r2 := Nat.ne_of_lt (Nat.lt_of_lt_of_le lt_fa sz'_r2)
    have ne_se_r2 : se ≠ r2 := Nat.ne_of_lt (Nat.lt_of_lt_of_le lt_se sz'_r2)
    have ne_bu_r2 : bu ≠ r2 := Nat.ne_of_lt (Nat.lt_of_lt_of_le lt_bu sz'_r2)
    have ne_r1_r2 : r1 ≠ r2 := Nat.ne_of_lt (Nat.lt_of_lt_of_le lt_r1 sz'_r2)
    have ne_la_r2 : la ≠ r2 := Nat.ne_of_lt (Nat.lt_of_lt_of_le lt_la sz'_r2)
    refine oS (B := T36.setTop (mkF m 185 #[iv p0, iv p1, iv p2, iv p3, iv p4, iv bg, iv n1, rv fa, iv 1, rv se, rv bu, rv r1, .unset, .unset] [(.ref r2)])) (fun t k => st36.trans k) ?_
    refine oS (B := T36.setTop (mkF m 187 #[iv p0, iv p1, iv p2, iv p3, iv p4, iv bg, iv n1, rv fa, iv 1, rv se, rv bu, rv r1, rv r2, .unset] [])) (fun t k => XS.astore X36.here hx rfl (hb hby at_185) rfl rfl (l' := #[iv p0, iv p1, iv p2, iv p3, iv p4, iv bg, iv n1, rv fa, iv 1, rv se, rv bu, rv r1, rv r2, .unset]) rfl k) ?_
    refine oS (B := T36.setTop (mkF m 189 #[iv p0, iv p1, iv p2, iv p3, iv p4, iv bg, iv n1, rv fa, iv 1, rv se, rv bu, rv r1, rv r2, .unset] [(.ref r2)])) (fun t k => XS.aload X36.here hx rfl (hb hby at_187) rfl rfl k) ?_
    have Vo_37 := V_r2
    obtain ⟨cl_37, Ar_37, q_37, S_37, M_37, H_37, G_37⟩ := Vo_37
    refine oS (B := T36.setTop (mkF m 190 #[iv p0, iv p1, iv p2, iv p3, iv p4, iv bg, iv n1, rv fa, iv 1, rv se, rv bu, rv r1, rv r2, .unset] [(.int 1)])) (fun t k => X36.arraylength hx Ar_37.1 (State.isArrayOf_alike hZ.alike Ar_37.2.1) (g := (mkF m 189 #[iv p0, iv p1, iv p2, iv p3, iv p4, iv bg, iv n1, rv fa, iv 1, rv se, rv bu, rv r1, rv r2, .unset] [(.ref r2)])) rfl rfl (hb hby at_189) t (by rw [len_of S_37 M_37]; exact k)) ?_
    refine oS (B := T36.setTop (mkF m 192 #[iv p0, iv p1, iv p2, iv p3, iv p4, iv bg, iv n1, rv fa, iv 1, rv se, rv bu, rv r1, rv r2, .unset] [(.int 1), (.int 1)])) (fun t k => XS.iload X36.here hx rfl (hb hby at_190) rfl k) ?_
    refine oS (B := T36.setTop (mkF m 197 #[iv p0, iv p1, iv p2, iv p3, iv p4, iv bg, iv n1, rv fa, iv 1, rv se, rv bu, rv r1, rv r2, .unset] [])) (fun t k => XS.icmpYes X36.here hx rfl (pc0 := 192) (pc' := 197) rfl (hb hby at_192) rfl (teq rfl).1 (by decide) (by decide) k) ?_
    refine oS (B := T36.setTop (mkF m 198 #[iv p0, iv p1, iv p2, iv p3, iv p4, iv bg, iv n1, rv fa, iv 1, rv se, rv bu, rv r1, rv r2, .unset] [(.int 1)])) (fun t k => XS.iconst X36.here hx rfl (hb hby at_197) k) ?_
    refine oS (B := T36.setTop (mkF m 200 #[iv p0, iv p1, iv p2, iv p3, iv p4, iv bg, iv n1, rv fa, iv 1, rv se, rv bu, rv r1, rv r2, iv 1] [])) (fun t k => XS.istore X36.here hx rfl (hb hby at_198) rfl (l' := #[iv p0, iv p1, iv p2, iv p3, iv p4, iv bg, iv n1, rv fa, iv 1, rv se, rv bu, rv r1, rv r2, iv 1]) rfl k) ?_
    refine oS (B := T36.setTop (mkF m 202 #[iv p0, iv p1, iv p2, iv p3, iv p4, iv bg, iv n1, rv fa, iv 1, rv se, rv bu, rv r1, rv r2, iv 1] [(.int 1)])) (fun t k => XS.iload X36.here hx rfl (hb hby at_200) rfl k) ?_
    refine oS (B := T36.setTop (mkF m 205 #[iv p0, iv p1, iv p2, iv p3, iv p4, iv bg, iv n1, rv fa, iv 1, rv se, rv bu, rv r1, rv r2, iv 1] [])) (fun t k => XS.ifNo X36.here hx rfl (hb hby at_202) rfl ((if0 _ _).trans (tlt (by decide)).2.2.2) k) ?_
    refine oS (B := T36.setTop (mkF m 207 #[iv p0, iv p1, iv p2, iv p3, iv p4, iv bg, iv n1, rv fa, iv 1, rv se, rv bu, rv r1, rv r2, iv 1] [(.int 1)])) (fun t k => XS.iload X36.here hx rfl (hb hby at_205) rfl k) ?_
    refine oS (B := T36.setTop (mkF m 210 #[iv p0, iv p1, iv p2, iv p3, iv p4, iv bg, iv n1, rv fa, iv 1, rv se, rv bu, rv r1, rv r2, iv 1] [])) (fun t k => XS.ifNo X36.here hx rfl (hb hby at_207) rfl ((if0 _ _).trans (feq (by decide)).1) k) ?_
    refine oS (B := T36.setTop (mkF m 212 #[iv p0, iv p1, iv p2, iv p3, iv p4, iv bg, iv n1, rv fa, iv 1, rv se, rv bu, rv r1, rv r2, iv 1] [(.ref r2)])) (fun t k => XS.aload X36.here hx rfl (hb hby at_210) rfl rfl k) ?_
    refine oS (B := T36.setTop (mkF m 213 #[iv p0, iv p1, iv p2, iv p3, iv p4, iv bg, iv n1, rv fa, iv 1, rv se, rv bu, rv r1, rv r2, iv 1] [(.int 0), (.ref r2)])) (fun t k => XS.iconst X36.here hx rfl (hb hby at_212) k) ?_
    have Vo_38 := V_r2
    obtain ⟨cl_38, Ar_38, q_38, S_38, M_38, H_38, G_38⟩ := Vo_38
    refine oS (B := T36.setTop (mkF m 214 #[iv p0, iv p1, iv p2, iv p3, iv p4, iv bg, iv n1, rv fa, iv 1, rv se, rv bu, rv r1, rv r2, iv 1] [(.int (nar .byte (p3.toInt8.toInt32)))])) (fun t k => X36.baloadBytes hx (j := (0 : Int32)) (v := (.int (nar .byte (p3.toInt8.toInt32)))) Ar_38.1 (State.isArrayOf_alike hZ.alike Ar_38.2.1) Ar_38.2.2 (inb_of S_38 ⟨by decide, by decide⟩) (Has.at H_38 (inb_of S_38 ⟨by decide, by decide⟩) ((hv_r2 0 (by decide)).trans (hv_la 0 (by decide)))) (g := (mkF m 213 #[iv p0, iv p1, iv p2, iv p3, iv p4, iv bg, iv n1, rv fa, iv 1, rv se, rv bu, rv r1, rv r2, iv 1] [(.int 0), (.ref r2)])) rfl rfl (hb hby at_213) t k) ?_
    refine oS (B := T36.setTop (mkF m 216 #[iv p0, iv p1, iv p2, iv p3, iv p4, iv bg, iv n1, rv fa, iv 1, rv se, rv bu, rv r1, rv r2, iv 1] [(.ref se), (.int (nar .byte (p3.toInt8.toInt32)))])) (fun t k => XS.aload X36.here hx rfl (hb hby at_214) rfl rfl k) ?_
    refine oS (B := T36.setTop (mkF m 217 #[iv p0, iv p1, iv p2, iv p3, iv p4, iv bg, iv n1, rv fa, iv 1, rv se, rv bu, rv r1, rv r2, iv 1] [(.int 0), (.ref se), (.int (nar .byte (p3.toInt8.toInt32)))])) (fun t k => XS.iconst X36.here hx rfl (hb hby at_216) k) ?_
    have Vo_39 := V_se
    obtain ⟨cl_39, Ar_39, q_39, S_39, M_39, H_39, G_39⟩ := Vo_39
    refine oS (B := T36.setTop (mkF m 218 #[iv p0, iv p1, iv p2, iv p3, iv p4, iv bg, iv n1, rv fa, iv 1, rv se, rv bu, rv r1, rv r2, iv 1] [(.int (nar .byte (p3.toInt8.toInt32))), (.int (nar .byte (p3.toInt8.toInt32)))])) (fun t k => X36.baloadBytes hx (j := (0 : Int32)) (v := (.int (nar .byte (p3.toInt8.toInt32)))) Ar_39.1 (State.isArrayOf_alike hZ.alike Ar_39.2.1) Ar_39.2.2 (inb_of S_39 ⟨by decide, by decide⟩) (Has.at H_39 (inb_of S_39 ⟨by decide, by decide⟩) rfl) (g := (mkF m 217 #[iv p0, iv p1, iv p2, iv p3, iv p4, iv bg, iv n1, rv fa, iv 1, rv se, rv bu, rv r1, rv r2, iv 1] [(.int 0), (.ref se), (.int (nar .byte (p3.toInt8.toInt32)))])) rfl rfl (hb hby at_217) t k) ?_
    refine oS (B := T36.setTop (mkF m 221 #[iv p0, iv p1, iv p2, iv p3, iv p4, iv bg, iv n1, rv fa, iv 1, rv se, rv bu, rv r1, rv r2, iv 1] [])) (fun t k => XS.icmpNo X36.here hx rfl (hb hby at_218) rfl (teq rfl).2 k) ?_
    refine oS (B := T36.setTop (mkF m 222 #[iv p0, iv p1, iv p2, iv p3, iv p4, iv bg, iv n1, rv fa, iv 1, rv se, rv bu, rv r1, rv r2, iv 1] [(.int 1)])) (fun t k => XS.iconst X36.here hx rfl (hb hby at_221) k) ?_
    refine oS (B := T36.setTop (mkF m 226 #[iv p0, iv p1, iv p2, iv p3, iv p4, iv bg, iv n1, rv fa, iv 1, rv se, rv bu, rv r1, rv r2, iv 1] [(.int 1)])) (fun t k => XS.goto X36.here hx rfl (pc0 := 222) (pc' := 226) rfl (hb hby at_222) (by decide) (by decide) k) ?_
    refine oS (B := T36.setTop (mkF m 228 #[iv p0, iv p1, iv p2, iv p3, iv p4, iv bg, iv n1, rv fa, iv 1, rv se, rv bu, rv r1, rv r2, iv 1] [])) (fun t k => XS.istore X36.here hx rfl (hb hby at_226) rfl (l' := #[iv p0, iv p1, iv p2, iv p3, iv p4, iv bg, iv n1, rv fa, iv 1, rv se, rv bu, rv r1, rv r2, iv 1]) rfl k) ?_
    refine oS (B := T36.setTop (mkF m 230 #[iv p0, iv p1, iv p2, iv p3, iv p4, iv bg, iv n1, rv fa, iv 1, rv se, rv bu, rv r1, rv r2, iv 1] [(.int 1)])) (fun t k => XS.iload X36.here hx rfl (hb hby at_228) rfl k) ?_
    refine oS (B := T36.setTop (mkF m 231 #[iv p0, iv p1, iv p2, iv p3, iv p4, iv bg, iv n1, rv fa, iv 1, rv se, rv bu, rv r1, rv r2, iv 1] [(.int 1), (.int 1)])) (fun t k => XS.iconst X36.here hx rfl (hb hby at_230) k) ?_
    refine oS (B := T36.setTop (mkF m 257 #[iv p0, iv p1, iv p2, iv p3, iv p4, iv bg, iv n1, rv fa, iv 1, rv se, rv bu, rv r1, rv r2, iv 1] [])) (fun t k => XS.icmpYes X36.here hx rfl (pc0 := 231) (pc' := 257) rfl (hb hby at_231) rfl (flt (by decide)).2.2.2 (by decide) (by decide) k) ?_
    refine oS (B := T36.setTop (mkF m 259 #[iv p0, iv p1, iv p2, iv p3, iv p4, iv bg, iv n1, rv fa, iv 1, rv se, rv bu, rv r1, rv r2, iv 1] [(.int 1)])) (fun t k => XS.iload X36.here hx rfl (hb hby at_257) rfl k) ?_
    refine oS (B := T36.setTop (mkF m 260 #[iv p0, iv p1, iv p2, iv p3, iv p4, iv bg, iv n1, rv fa, iv 1, rv se, rv bu, rv r1, rv r2, iv 1] [(.int 2), (.int 1)])) (fun t k => XS.iconst X36.here hx rfl (hb hby at_259) k) ?_
    refine oS (B := T36.setTop (mkF m 286 #[iv p0, iv p1, iv p2, iv p3, iv p4, iv bg, iv n1, rv fa, iv 1, rv se, rv bu, rv r1, rv r2, iv 1] [])) (fun t k => XS.icmpYes X36.here hx rfl (pc0 := 260) (pc' := 286) rfl (hb hby at_260) rfl (flt (by decide)).2.2.2 (by decide) (by decide) k) ?_
    refine oS (B := T36.setTop (mkF m 288 #[iv p0, iv p1, iv p2, iv p3, iv p4, iv bg, iv n1, rv fa, iv 1, rv se, rv bu, rv r1, rv r2, iv 1] [(.int 1)])) (fun t k => XS.iload X36.here hx rfl (hb hby at_286) rfl k) ?_
    exact own_retN X36 hx hlk (t := .boolean) Bd.returns (by simp) (hb hby at_288) (by decide) (by decide) (by exact ⟨rfl, N0⟩)
  · skip
    refine oS (B := T11.setTop (mkF m 72 #[iv p0, iv p1, iv p2, iv p3, iv p4, iv bg, iv n1, rv fa, iv 2, .unset, .unset, .unset, .unset, .unset] [(.int 2)])) (fun t k => XS.iload X11.here hx rfl (hb hby at_70) rfl k) ?_
    obtain ⟨T40, h40, k40, X40, e40, E40, A40, EE40, st40⟩ := newPE X11 hx hZ (ow hw 0 rfl) e11 (g := (mkF m 72 #[iv p0, iv p1, iv p2, iv p3, iv p4, iv bg, iv n1, rv fa, iv 2, .unset, .unset, .unset, .unset, .unset] [(.int 2)])) rfl (hb hby at_72) rfl (by decide) (cap := 2) (by decide) (by decide) (by decide) (by decide) (ad := "[B") rfl
    obtain ⟨se, g40⟩ : ∃ z, z = H11.size := ⟨_, rfl⟩
    rw [← g40] at A40 EE40 st40
    have g_se : n0 ≤ se := Nat.le_trans Z0 (Nat.le_of_eq g40.symm)
    have ne_em_se : em ≠ se := Nat.ne_of_lt (Nat.lt_of_lt_of_le E_em.lt (Nat.le_of_eq g40.symm))
    have ne_de_se : de ≠ se := Nat.ne_of_lt (Nat.lt_of_lt_of_le V_de.lt (Nat.le_of_eq g40.symm))
    have ne_fa_se : fa ≠ se := Nat.ne_of_lt (Nat.lt_of_lt_of_le V_fa.lt (Nat.le_of_eq g40.symm))
    have E_em := E_em.ext E40
    have V_em := V_em.ext E40
    have V_de := V_de.ext E40
    have V_fa := V_fa.ext E40
    have Z0 := Nat.le_trans Z0 E40.1
    have O0 := O0.ext E40
    have E_se := EE40
    have K_se := A40
    have V_se : Arv Z h40 se k40 .byte (2 : Int32) [(.int 0), (.int 0)] (.int 0) := (Arv.new A40 (by decide)).pad (pad_rep [] (.int 0) 2)
    refine oS (B := T40.setTop (mkF m 74 #[iv p0, iv p1, iv p2, iv p3, iv p4, iv bg, iv n1, rv fa, iv 2, .unset, .unset, .unset, .unset, .unset] [(.ref se)])) (fun t k => st40 t k) ?_
    refine oS (B := T40.setTop (mkF m 76 #[iv p0, iv p1, iv p2, iv p3, iv p4, iv bg, iv n1, rv fa, iv 2, rv se, .unset, .unset, .unset, .unset] [])) (fun t k => XS.astore X40.here hx rfl (hb hby at_74) rfl rfl (l' := #[iv p0, iv p1, iv p2, iv p3, iv p4, iv bg, iv n1, rv fa, iv 2, rv se, .unset, .unset, .unset, .unset]) rfl k) ?_
    refine oS (B := T40.setTop (mkF m 78 #[iv p0, iv p1, iv p2, iv p3, iv p4, iv bg, iv n1, rv fa, iv 2, rv se, .unset, .unset, .unset, .unset] [(.int 2)])) (fun t k => XS.iload X40.here hx rfl (hb hby at_76) rfl k) ?_
    refine oS (B := T40.setTop (mkF m 81 #[iv p0, iv p1, iv p2, iv p3, iv p4, iv bg, iv n1, rv fa, iv 2, rv se, .unset, .unset, .unset, .unset] [])) (fun t k => XS.ifNo X40.here hx rfl (hb hby at_78) rfl ((if0 _ _).trans (tlt (by decide)).2.2.2) k) ?_
    refine oS (B := T40.setTop (mkF m 83 #[iv p0, iv p1, iv p2, iv p3, iv p4, iv bg, iv n1, rv fa, iv 2, rv se, .unset, .unset, .unset, .unset] [(.ref se)])) (fun t k => XS.aload X40.here hx rfl (hb hby at_81) rfl rfl k) ?_
    refine oS (B := T40.setTop (mkF m 84 #[iv p0, iv p1, iv p2, iv p3, iv p4, iv bg, iv n1, rv fa, iv 2, rv se, .unset, .unset, .unset, .unset] [(.int 0), (.ref se)])) (fun t k => XS.iconst X40.here hx rfl (hb hby at_83) k) ?_
    refine oS (B := T40.setTop (mkF m 85 #[iv p0, iv p1, iv p2, iv p3, iv p4, iv bg, iv n1, rv fa, iv 2, rv se, .unset, .unset, .unset, .unset] [(.int p3), (.int 0), (.ref se)])) (fun t k => XS.iloadN X40.here hx rfl (hb hby at_84) rfl k) ?_
    refine oS (B := T40.setTop (mkF m 86 #[iv p0, iv p1, iv p2, iv p3, iv p4, iv bg, iv n1, rv fa, iv 2, rv se, .unset, .unset, .unset, .unset] [(.int (p3.toInt8.toInt32)), (.int 0), (.ref se)])) (fun t k => XS.i2b X40.here hx rfl (hb hby at_85) rfl k) ?_
    have Vo_41 := V_se
    obtain ⟨cl_41, Ar_41, q_41, S_41, M_41, H_41, G_41⟩ := Vo_41
    have hin42 : ¬ ((0 : Int32) < 0 ∨ cl_41.slots.size ≤ ((0 : Int32)).toNatClampNeg) := inb_of S_41 ⟨by decide, by decide⟩
    obtain ⟨T42, h42, X42, e42, W42, st42⟩ := stB X40 hx hZ e40 Ar_41 (j := (0 : Int32)) hin42 (g := (mkF m 86 #[iv p0, iv p1, iv p2, iv p3, iv p4, iv bg, iv n1, rv fa, iv 2, rv se, .unset, .unset, .unset, .unset] [(.int (p3.toInt8.toInt32)), (.int 0), (.ref se)])) rfl rfl (hb hby at_86)
    have E_em := E_em.wr W42
    have V_em := V_em.other W42 ne_em_se
    have V_de := V_de.other W42 ne_de_se
    have V_fa := V_fa.other W42 ne_fa_se
    have E_se := E_se.wr W42
    have Z0 := Nat.le_trans Z0 (Keep.of_wr W42).1
    have N0 := Fr.snoc X42 N0 g_se
    have O0 := O0.wr W42 g_se
    have V_se := Arv.set Ar_41 q_41 S_41 M_41 H_41 G_41 (fits_nar_byte _) W42 0 rfl (Nat.le_of_ble_eq_true rfl)
    change Arv Z h42 se k40 .byte (2 : Int32) [(.int (nar .byte (p3.toInt8.toInt32))), (.int 0)] (.int 0) at V_se
    refine oS (B := T42.setTop (mkF m 87 #[iv p0, iv p1, iv p2, iv p3, iv p4, iv bg, iv n1, rv fa, iv 2, rv se, .unset, .unset, .unset, .unset] [])) (fun t k => st42 t k) ?_
    refine oS (B := T42.setTop (mkF m 89 #[iv p0, iv p1, iv p2, iv p3, iv p4, iv bg, iv n1, rv fa, iv 2, rv se, .unset, .unset, .unset, .unset] [(.int 2)])) (fun t k => XS.iload X42.here hx rfl (hb hby at_87) rfl k) ?_
    refine oS (B := T42.setTop (mkF m 90 #[iv p0, iv p1, iv p2, iv p3, iv p4, iv bg, iv n1, rv fa, iv 2, rv se, .unset, .unset, .unset, .unset] [(.int 1), (.int 2)])) (fun t k => XS.iconst X42.here hx rfl (hb hby at_89) k) ?_
    refine oS (B := T42.setTop (mkF m 93 #[iv p0, iv p1, iv p2, iv p3, iv p4, iv bg, iv n1, rv fa, iv 2, rv se, .unset, .unset, .unset, .unset] [])) (fun t k => XS.icmpNo X42.here hx rfl (hb hby at_90) rfl (tlt (by decide)).2.2.2 k) ?_
    refine oS (B := T42.setTop (mkF m 95 #[iv p0, iv p1, iv p2, iv p3, iv p4, iv bg, iv n1, rv fa, iv 2, rv se, .unset, .unset, .unset, .unset] [(.ref se)])) (fun t k => XS.aload X42.here hx rfl (hb hby at_93) rfl rfl k) ?_
    refine oS (B := T42.setTop (mkF m 96 #[iv p0, iv p1, iv p2, iv p3, iv p4, iv bg, iv n1, rv fa, iv 2, rv se, .unset, .unset, .unset, .unset] [(.int 1), (.ref se)])) (fun t k => XS.iconst X42.here hx rfl (hb hby at_95) k) ?_
    refine oS (B := T42.setTop (mkF m 97 #[iv p0, iv p1, iv p2, iv p3, iv p4, iv bg, iv n1, rv fa, iv 2, rv se, .unset, .unset, .unset, .unset] [(.int p3), (.int 1), (.ref se)])) (fun t k => XS.iloadN X42.here hx rfl (hb hby at_96) rfl k) ?_
    refine oS (B := T42.setTop (mkF m 99 #[iv p0, iv p1, iv p2, iv p3, iv p4, iv bg, iv n1, rv fa, iv 2, rv se, .unset, .unset, .unset, .unset] [(.int 8), (.int p3), (.int 1), (.ref se)])) (fun t k => XS.bipush X42.here hx rfl (hb hby at_97) k) ?_
    refine oS (B := T42.setTop (mkF m 100 #[iv p0, iv p1, iv p2, iv p3, iv p4, iv bg, iv n1, rv fa, iv 2, rv se, .unset, .unset, .unset, .unset] [(.int ((p3.toUInt32 >>> ((8 : Int32) &&& 31).toUInt32).toInt32)), (.int 1), (.ref se)])) (fun t k => XS.iushr X42.here hx rfl (hb hby at_99) rfl k) ?_
    refine oS (B := T42.setTop (mkF m 101 #[iv p0, iv p1, iv p2, iv p3, iv p4, iv bg, iv n1, rv fa, iv 2, rv se, .unset, .unset, .unset, .unset] [(.int (((p3.toUInt32 >>> ((8 : Int32) &&& 31).toUInt32).toInt32).toInt8.toInt32)), (.int 1), (.ref se)])) (fun t k => XS.i2b X42.here hx rfl (hb hby at_100) rfl k) ?_
    have Vo_43 := V_se
    obtain ⟨cl_43, Ar_43, q_43, S_43, M_43, H_43, G_43⟩ := Vo_43
    have hin44 : ¬ ((1 : Int32) < 0 ∨ cl_43.slots.size ≤ ((1 : Int32)).toNatClampNeg) := inb_of S_43 ⟨by decide, by decide⟩
    obtain ⟨T44, h44, X44, e44, W44, st44⟩ := stB X42 hx hZ e42 Ar_43 (j := (1 : Int32)) hin44 (g := (mkF m 101 #[iv p0, iv p1, iv p2, iv p3, iv p4, iv bg, iv n1, rv fa, iv 2, rv se, .unset, .unset, .unset, .unset] [(.int (((p3.toUInt32 >>> ((8 : Int32) &&& 31).toUInt32).toInt32).toInt8.toInt32)), (.int 1), (.ref se)])) rfl rfl (hb hby at_101)
    have E_em := E_em.wr W44
    have V_em := V_em.other W44 ne_em_se
    have V_de := V_de.other W44 ne_de_se
    have V_fa := V_fa.other W44 ne_fa_se
    have E_se := E_se.wr W44
    have Z0 := Nat.le_trans Z0 (Keep.of_wr W44).1
    have N0 := Fr.snoc X44 N0 g_se
    have O0 := O0.wr W44 g_se
    have V_se := Arv.set Ar_43 q_43 S_43 M_43 H_43 G_43 (fits_nar_byte _) W44 1 rfl (Nat.le_of_ble_eq_true rfl)
    change Arv Z h44 se k40 .byte (2 : Int32) [(.int (nar .byte (p3.toInt8.toInt32))), (.int (nar .byte (((p3.toUInt32 >>> ((8 : Int32) &&& 31).toUInt32).toInt32).toInt8.toInt32)))] (.int 0) at V_se
    refine oS (B := T44.setTop (mkF m 102 #[iv p0, iv p1, iv p2, iv p3, iv p4, iv bg, iv n1, rv fa, iv 2, rv se, .unset, .unset, .unset, .unset] [])) (fun t k => st44 t k) ?_
    refine oS (B := T44.setTop (mkF m 104 #[iv p0, iv p1, iv p2, iv p3, iv p4, iv bg, iv n1, rv fa, iv 2, rv se, .unset, .unset, .unset, .unset] [(.int 2)])) (fun t k => XS.iload X44.here hx rfl (hb hby at_102) rfl k) ?_
    refine oS (B := T44.setTop (mkF m 105 #[iv p0, iv p1, iv p2, iv p3, iv p4, iv bg, iv n1, rv fa, iv 2, rv se, .unset, .unset, .unset, .unset] [(.int 2), (.int 2)])) (fun t k => XS.iconst X44.here hx rfl (hb hby at_104) k) ?_
    refine oS (B := T44.setTop (mkF m 115 #[iv p0, iv p1, iv p2, iv p3, iv p4, iv bg, iv n1, rv fa, iv 2, rv se, .unset, .unset, .unset, .unset] [])) (fun t k => XS.icmpYes X44.here hx rfl (pc0 := 105) (pc' := 115) rfl (hb hby at_105) rfl (flt (by decide)).2.2.2 (by decide) (by decide) k) ?_
    obtain ⟨T45, h45, X45, e45, E45, A45, D45, -, st45⟩ := newO X44 hx hZ hown (ow hw 1 rfl) (ow hw 2 rfl) (ow hw 3 rfl) e44 (g := (mkF m 115 #[iv p0, iv p1, iv p2, iv p3, iv p4, iv bg, iv n1, rv fa, iv 2, rv se, .unset, .unset, .unset, .unset] [])) rfl (hb hby at_115) (by decide) (by decide)
    obtain ⟨bu, g45⟩ : ∃ z, z = h44.size := ⟨_, rfl⟩
    rw [← g45] at A45 D45 st45
    have g_bu : n0 ≤ bu := Nat.le_trans Z0 (Nat.le_of_eq g45.symm)
    have ne_em_bu : em ≠ bu := Nat.ne_of_lt (Nat.lt_of_lt_of_le E_em.lt (Nat.le_of_eq g45.symm))
    have ne_de_bu : de ≠ bu := Nat.ne_of_lt (Nat.lt_of_lt_of_le V_de.lt (Nat.le_of_eq g45.symm))
    have ne_fa_bu : fa ≠ bu := Nat.ne_of_lt (Nat.lt_of_lt_of_le V_fa.lt (Nat.le_of_eq g45.symm))
    have ne_se_bu : se ≠ bu := Nat.ne_of_lt (Nat.lt_of_lt_of_le E_se.lt (Nat.le_of_eq g45.symm))
    have E_em := E_em.ext E45
    have V_em := V_em.ext E45
    have V_de := V_de.ext E45
    have V_fa := V_fa.ext E45
    have E_se := E_se.ext E45
    have V_se := V_se.ext E45
    have Z0 := Nat.le_trans Z0 E45.1
    have O0 := O0.ext E45
    have E_bu := A45
    have F_last_bu : Fld Z h45 bu "com/example/loomwire/loomwire/transport/MessageBuffer" "last" "[B" .null := D45 (Or.inl (ow hw 13 rfl)) (ty := (.array .byte)) (by decide)
    have F_length_bu : Fld Z h45 bu "com/example/loomwire/loomwire/transport/MessageBuffer" "length" "I" (.int 0) := D45 (Or.inl (ow hw 20 rfl)) (ty := .int) (by decide)
    have F_full_bu : Fld Z h45 bu "com/example/loomwire/loomwire/transport/MessageBuffer" "full" "Ljava/util/List;" .null := D45 (Or.inl (ow hw 27 rfl)) (ty := (.object "java/util/List")) (by decide)
    have F_lastLength_bu : Fld Z h45 bu "com/example/loomwire/loomwire/transport/MessageBuffer" "lastLength" "I" (.int 0) := D45 (Or.inl (ow hw 29 rfl)) (ty := .int) (by decide)
    refine oS (B := T45.setTop (mkF m 118 #[iv p0, iv p1, iv p2, iv p3, iv p4, iv bg, iv n1, rv fa, iv 2, rv se, .unset, .unset, .unset, .unset] [(.ref bu)])) (fun t k => st45 t k) ?_
    refine oS (B := T45.setTop (mkF m 119 #[iv p0, iv p1, iv p2, iv p3, iv p4, iv bg, iv n1, rv fa, iv 2, rv se, .unset, .unset, .unset, .unset] [(.ref bu), (.ref bu)])) (fun t k => XS.dup X45.here hx rfl (hb hby at_118) rfl rfl k) ?_
    obtain ⟨_, _, ⟨T46, L46, k46, n46⟩, -, X46, ⟨Lc46, hQ46, l46, y46, z46⟩, st46⟩ := X45.specialBack hx (y := (⟨"com/example/loomwire/loomwire/transport/MessageBuffer", "<init>", "()V"⟩ : MethodName)) rfl hown (mvT hZ (ow hw 4 rfl)) (mvT hZ (ow hw 5 rfl)) (mvT hZ (ow hw 6 rfl)) (by decide) (backOf (W := 1) (rm1 l Z a0 hw [] bu em ke de kd h45 n0 Z0 E_bu g_bu F_full_bu F_last_bu F_lastLength_bu F_length_bu BB O0) hZ (ow hw 6 rfl) (ow hw 3 rfl) (by decide) (by decide)) (g := (mkF m 119 #[iv p0, iv p1, iv p2, iv p3, iv p4, iv bg, iv n1, rv fa, iv 2, rv se, .unset, .unset, .unset, .unset] [(.ref bu), (.ref bu)])) rfl (by rw [hml]; rfl) (Steps.refl _) (a := bu) (argsL := []) (rest := [(.ref bu)]) (lenOf pd_2 rfl) rfl (by show 2 * 0 + _ ≤ _; exact Nat.le_of_eq rfl) (hb hby at_119) (fun _ _ => ⟨rfl, e45, (by decide : 3 + 0 ≤ _), (by decide : 65544 + 0 ≤ _)⟩)
    dsimp only [Pt.U, Pt.locs, Pt.cells, Pt.slots] at X46 l46 y46 z46 st46 hQ46
    subst l46 y46 z46
    obtain ⟨rfl, N46q, K46, G0_46, G1_46, G2_46, G3_46⟩ := hQ46
    have N0 := Fr.app N0 N46q
    have E_em := E_em.keep K46
    have V_em := V_em.keep K46 (ninS ne_em_bu nin0)
    have V_de := V_de.keep K46 (ninS ne_de_bu nin0)
    have V_fa := V_fa.keep K46 (ninS ne_fa_bu nin0)
    have E_se := E_se.keep K46
    have V_se := V_se.keep K46 (ninS ne_se_bu nin0)
    have E_bu := E_bu.keep K46
    have Z0 := Nat.le_trans Z0 K46.1
    have O0 := O0.keep K46 (allS g_bu all0)
    have F_full_bu := G0_46
    have F_last_bu := G1_46
    have F_lastLength_bu := G2_46
    have F_length_bu := G3_46
    refine oS (B := T46.setTop (mkF m 122 #[iv p0, iv p1, iv p2, iv p3, iv p4, iv bg, iv n1, rv fa, iv 2, rv se, .unset, .unset, .unset, .unset] [(.ref bu)])) (fun t k => st46.trans k) ?_
    refine oS (B := T46.setTop (mkF m 124 #[iv p0, iv p1, iv p2, iv p3, iv p4, iv bg, iv n1, rv fa, iv 2, rv se, rv bu, .unset, .unset, .unset] [])) (fun t k => XS.astore X46.here hx rfl (hb hby at_122) rfl rfl (l' := #[iv p0, iv p1, iv p2, iv p3, iv p4, iv bg, iv n1, rv fa, iv 2, rv se, rv bu, .unset, .unset, .unset]) rfl k) ?_
    refine oS (B := T46.setTop (mkF m 126 #[iv p0, iv p1, iv p2, iv p3, iv p4, iv bg, iv n1, rv fa, iv 2, rv se, rv bu, .unset, .unset, .unset] [(.ref bu)])) (fun t k => XS.aload X46.here hx rfl (hb hby at_124) rfl rfl k) ?_
    refine oS (B := T46.setTop (mkF m 128 #[iv p0, iv p1, iv p2, iv p3, iv p4, iv bg, iv n1, rv fa, iv 2, rv se, rv bu, .unset, .unset, .unset] [(.ref fa), (.ref bu)])) (fun t k => XS.aload X46.here hx rfl (hb hby at_126) rfl rfl k) ?_
    obtain ⟨cq47, kq47, q47a, q47b, q47c⟩ := isOf hZ rfl E_bu
    obtain ⟨_, _, ⟨T47, L47, k47, n47⟩, -, X47, ⟨Lc47, hQ47, l47, y47, z47⟩, st47⟩ := X46.virtualBack hx (y := (⟨"com/example/loomwire/loomwire/transport/MessageBuffer", "append", "([B)V"⟩ : MethodName)) (z := (⟨"com/example/loomwire/loomwire/transport/MessageBuffer", "append", "([B)V"⟩ : MethodName)) hown (mvT hZ (ow hw 14 rfl)) (mvT hZ (ow hw 15 rfl)) (notFace_of_selects (args := #[]) (mvT hZ (ow hw 17 rfl))) (mvT hZ (ow hw 17 rfl)) (mvT hZ (ow hw 16 rfl)) (by decide) (backOf (W := 0) (rma l Z a0 hw [] bu fa em ke de kd _ _ n1 T46.heap n0 Z0 E_bu g_bu F_full_bu F_last_bu F_lastLength_bu F_length_bu BB O0 (Ne.symm ne_fa_bu) hn1 V_fa) hZ (ow hw 18 rfl) (ow hw 3 rfl) (by decide) (by decide)) q47a q47c (g := (mkF m 128 #[iv p0, iv p1, iv p2, iv p3, iv p4, iv bg, iv n1, rv fa, iv 2, rv se, rv bu, .unset, .unset, .unset] [(.ref fa), (.ref bu)])) rfl (by rw [hml]; rfl) (Steps.refl _) (argsL := [(.ref fa)]) (rest := []) (lenOf pd_8 rfl) rfl (by show 2 * 0 + _ ≤ _; exact Nat.le_of_eq rfl) (hb hby at_128) (fun _ _ => ⟨rfl, rfl, (by decide : 3 + 4 ≤ _), (by decide : 65544 + 65551 ≤ _)⟩)
    dsimp only [Pt.U, Pt.locs, Pt.cells, Pt.slots] at X47 l47 y47 z47 st47 hQ47
    subst l47 y47 z47
    obtain ⟨vf, vl, vll, vlen, rfl, N47q, K47, F_full_bu, F_last_bu, F_lastLength_bu, F_length_bu⟩ := hQ47
    have N0 := Fr.app N0 N47q
    have E_em := E_em.keep K47
    have V_em := V_em.keep K47 (ninS ne_em_bu nin0)
    have V_de := V_de.keep K47 (ninS ne_de_bu nin0)
    have V_fa := V_fa.keep K47 (ninS ne_fa_bu nin0)
    have E_se := E_se.keep K47
    have V_se := V_se.keep K47 (ninS ne_se_bu nin0)
    have E_bu := E_bu.keep K47
    have Z0 := Nat.le_trans Z0 K47.1
    have O0 := O0.keep K47 (allS g_bu all0)
    refine oS (B := T47.setTop (mkF m 131 #[iv p0, iv p1, iv p2, iv p3, iv p4, iv bg, iv n1, rv fa, iv 2, rv se, rv bu, .unset, .unset, .unset] [])) (fun t k => st47.trans k) ?_
    refine oS (B := T47.setTop (mkF m 133 #[iv p0, iv p1, iv p2, iv p3, iv p4, iv bg, iv n1, rv fa, iv 2, rv se, rv bu, .unset, .unset, .unset] [(.ref bu)])) (fun t k => XS.aload X47.here hx rfl (hb hby at_131) rfl rfl k) ?_
    obtain ⟨cq48, kq48, q48a, q48b, q48c⟩ := isOf hZ rfl E_bu
    obtain ⟨_, _, ⟨T48, L48, k48, n48⟩, -, X48, ⟨Lc48, hQ48, l48, y48, z48⟩, st48⟩ := X47.virtualBack hx (y := (⟨"com/example/loomwire/loomwire/transport/MessageBuffer", "clear", "()V"⟩ : MethodName)) (z := (⟨"com/example/loomwire/loomwire/transport/MessageBuffer", "clear", "()V"⟩ : MethodName)) hown (mvT hZ (ow hw 21 rfl)) (mvT hZ (ow hw 22 rfl)) (notFace_of_selects (args := #[]) (mvT hZ (ow hw 24 rfl))) (mvT hZ (ow hw 24 rfl)) (mvT hZ (ow hw 23 rfl)) (by decide) (backOf (W := 0) (rm4 l Z a0 hw [] bu em ke de kd _ _ _ _ T47.heap n0 Z0 E_bu g_bu F_full_bu F_last_bu F_lastLength_bu F_length_bu BB O0) hZ (ow hw 25 rfl) (ow hw 3 rfl) (by decide) (by decide)) q48a q48c (g := (mkF m 133 #[iv p0, iv p1, iv p2, iv p3, iv p4, iv bg, iv n1, rv fa, iv 2, rv se, rv bu, .unset, .unset, .unset] [(.ref bu)])) rfl (by rw [hml]; rfl) (Steps.refl _) (argsL := []) (rest := []) (lenOf pd_2 rfl) rfl (by show 2 * 0 + _ ≤ _; exact Nat.le_of_eq rfl) (hb hby at_133) (fun _ _ => ⟨rfl, rfl, (by decide : 7 + 0 ≤ _), (by decide : 131095 + 0 ≤ _)⟩)
    dsimp only [Pt.U, Pt.locs, Pt.cells, Pt.slots] at X48 l48 y48 z48 st48 hQ48
    subst l48 y48 z48
    obtain ⟨rfl, N48q, K48, G0_48, G1_48, G2_48, G3_48⟩ := hQ48
    have N0 := Fr.app N0 N48q
    have E_em := E_em.keep K48
    have V_em := V_em.keep K48 (ninS ne_em_bu nin0)
    have V_de := V_de.keep K48 (ninS ne_de_bu nin0)
    have V_fa := V_fa.keep K48 (ninS ne_fa_bu nin0)
    have E_se := E_se.keep K48
    have V_se := V_se.keep K48 (ninS ne_se_bu nin0)
    have E_bu := E_bu.keep K48
    have Z0 := Nat.le_trans Z0 K48.1
    have O0 := O0.keep K48 (allS g_bu all0)
    have F_full_bu := G0_48
    have F_last_bu := G1_48
    have F_lastLength_bu := G2_48
    have F_length_bu := G3_48
    refine oS (B := T48.setTop (mkF m 136 #[iv p0, iv p1, iv p2, iv p3, iv p4, iv bg, iv n1, rv fa, iv 2, rv se, rv bu, .unset, .unset, .unset] [])) (fun t k => st48.trans k) ?_
    refine oS (B := T48.setTop (mkF m 138 #[iv p0, iv p1, iv p2, iv p3, iv p4, iv bg, iv n1, rv fa, iv 2, rv se, rv bu, .unset, .unset, .unset] [(.ref bu)])) (fun t k => XS.aload X48.here hx rfl (hb hby at_136) rfl rfl k) ?_
    obtain ⟨cq49, kq49, q49a, q49b, q49c⟩ := isOf hZ rfl E_bu
    obtain ⟨_, _, ⟨T49, L49, k49, n49⟩, -, X49, ⟨Lc49, hQ49, l49, y49, z49⟩, st49⟩ := X48.virtualBack hx (y := (⟨"com/example/loomwire/loomwire/transport/MessageBuffer", "length", "()I"⟩ : MethodName)) (z := (⟨"com/example/loomwire/loomwire/transport/MessageBuffer", "length", "()I"⟩ : MethodName)) hown (mvT hZ (ow hw 30 rfl)) (mvT hZ (ow hw 31 rfl)) (notFace_of_selects (args := #[]) (mvT hZ (ow hw 33 rfl))) (mvT hZ (ow hw 33 rfl)) (mvT hZ (ow hw 32 rfl)) (by decide) (backOf (W := 0) (rm5 l Z a0 hw [] bu (0 : Int32) T48.heap n0 Z0 F_length_bu) hZ (ow hw 34 rfl) (ow hw 3 rfl) (by decide) (by decide)) q49a q49c (g := (mkF m 138 #[iv p0, iv p1, iv p2, iv p3, iv p4, iv bg, iv n1, rv fa, iv 2, rv se, rv bu, .unset, .unset, .unset] [(.ref bu)])) rfl (by rw [hml]; rfl) (Steps.refl _) (argsL := []) (rest := []) (lenOf pd_9 rfl) rfl (by show 2 * 0 + _ ≤ _; exact Nat.le_of_eq rfl) (hb hby at_138) (fun _ _ => ⟨rfl, rfl, (by decide : 7 + 0 ≤ _), (by decide : 131095 + 0 ≤ _)⟩)
    dsimp only [Pt.U, Pt.locs, Pt.cells, Pt.slots] at X49 l49 y49 z49 st49 hQ49
    subst l49 y49 z49
    obtain ⟨rfl, N49q, e49⟩ := hQ49
    have N0 := Fr.app N0 N49q
    refine oS (B := T49.setTop (mkF m 141 #[iv p0, iv p1, iv p2, iv p3, iv p4, iv bg, iv n1, rv fa, iv 2, rv se, rv bu, .unset, .unset, .unset] [(.int 0)])) (fun t k => st49.trans k) ?_
    refine oS (B := T49.setTop (mkF m 146 #[iv p0, iv p1, iv p2, iv p3, iv p4, iv bg, iv n1, rv fa, iv 2, rv se, rv bu, .unset, .unset, .unset] [])) (fun t k => XS.ifYes X49.here hx rfl (pc0 := 141) (pc' := 146) rfl (hb hby at_141) rfl ((if0 _ _).trans (teq rfl).1) (by decide) (by decide) k) ?_
    refine oS (B := T49.setTop (mkF m 148 #[iv p0, iv p1, iv p2, iv p3, iv p4, iv bg, iv n1, rv fa, iv 2, rv se, rv bu, .unset, .unset, .unset] [(.ref bu)])) (fun t k => XS.aload X49.here hx rfl (hb hby at_146) rfl rfl k) ?_
    have lt_fa := V_fa.lt
    have lt_se := E_se.lt
    have lt_bu := E_bu.lt
    obtain ⟨cq50, kq50, q50a, q50b, q50c⟩ := isOf hZ e49 E_bu
    obtain ⟨_, _, ⟨T50, L50, k50, n50⟩, -, X50, ⟨Lc50, hQ50, l50, y50, z50⟩, st50⟩ := X49.virtualBack hx (y := (⟨"com/example/loomwire/loomwire/transport/MessageBuffer", "toArray", "()[B"⟩ : MethodName)) (z := (⟨"com/example/loomwire/loomwire/transport/MessageBuffer", "toArray", "()[B"⟩ : MethodName)) hown (mvT hZ (ow hw 35 rfl)) (mvT hZ (ow hw 36 rfl)) (notFace_of_selects (args := #[]) (mvT hZ (ow hw 38 rfl))) (mvT hZ (ow hw 38 rfl)) (mvT hZ (ow hw 37 rfl)) (by decide) (backOf (W := 0) (rmta l Z a0 hw [] bu em _ _ (0 : Int32) T48.heap n0 Z0 F_full_bu F_last_bu F_lastLength_bu E_em V_em (by decide)) hZ (ow hw 39 rfl) (ow hw 3 rfl) (by decide) (by decide)) q50a q50c (g := (mkF m 148 #[iv p0, iv p1, iv p2, iv p3, iv p4, iv bg, iv n1, rv fa, iv 2, rv se, rv bu, .unset, .unset, .unset] [(.ref bu)])) rfl (by rw [hml]; rfl) (Steps.refl _) (argsL := []) (rest := []) (lenOf pd_10 rfl) rfl (by show 2 * 0 + _ ≤ _; exact Nat.le_of_eq rfl) (hb hby at_148) (fun _ _ => ⟨rfl, e49, (by decide : 7 + 1 ≤ _), (by decide : 131095 + 3 ≤ _)⟩)
    dsimp only [Pt.U, Pt.locs, Pt.cells, Pt.slots] at X50 l50 y50 z50 st50 hQ50
    subst l50 y50 z50
    obtain ⟨r1, kr1, vr1, rfl, N50q, K50, g_r1, sz'_r1, V_r1, hv_r1⟩ := hQ50
    have N0 := Fr.app N0 N50q
    have E_em := E_em.keep K50
    have V_em := V_em.keep K50 nin0
    have V_de := V_de.keep K50 nin0
    have V_fa := V_fa.keep K50 nin0
    have E_se := E_se.keep K50
    have V_se := V_se.keep K50 nin0
    have E_bu := E_bu.keep K50
    have F_full_bu := F_full_bu.keep K50 nin0
    have F_last_bu := F_last_bu.keep K50 nin0
    have F_lastLength_bu := F_lastLength_bu.keep K50 nin0
    have F_length_bu := F_length_bu.keep K50 nin0
    have Z0 := Nat.le_trans Z0 K50.1
    have O0 := O0.keep K50 all0
    have ne_fa_r1 : fa ≠ r1 := Nat.ne_of_lt (Nat.lt_of_lt_of_le lt_fa sz'_r1)
    have ne_se_r1 : se ≠ r1 := Nat.ne_of_lt (Nat.lt_of_lt_of_le lt_se sz'_r1)
    have ne_bu_r1 : bu ≠ r1 := Nat.ne_of_lt (Nat.lt_of_lt_of_le lt_bu sz'_r1)
    refine oS (B := T50.setTop (mkF m 151 #[iv p0, iv p1, iv p2, iv p3, iv p4, iv bg, iv n1, rv fa, iv 2, rv se, rv bu, .unset, .unset, .unset] [(.ref r1)])) (fun t k => st50.trans k) ?_
    refine oS (B := T50.setTop (mkF m 153 #[iv p0, iv p1, iv p2, iv p3, iv p4, iv bg, iv n1, rv fa, iv 2, rv se, rv bu, rv r1, .unset, .unset] [])) (fun t k => XS.astore X50.here hx rfl (hb hby at_151) rfl rfl (l' := #[iv p0, iv p1, iv p2, iv p3, iv p4, iv bg, iv n1, rv fa, iv 2, rv se, rv bu, rv r1, .unset, .unset]) rfl k) ?_
    refine oS (B := T50.setTop (mkF m 155 #[iv p0, iv p1, iv p2, iv p3, iv p4, iv bg, iv n1, rv fa, iv 2, rv se, rv bu, rv r1, .unset, .unset] [(.ref r1)])) (fun t k => XS.aload X50.here hx rfl (hb hby at_153) rfl rfl k) ?_
    have Vo_51 := V_r1
    obtain ⟨cl_51, Ar_51, q_51, S_51, M_51, H_51, G_51⟩ := Vo_51
    refine oS (B := T50.setTop (mkF m 156 #[iv p0, iv p1, iv p2, iv p3, iv p4, iv bg, iv n1, rv fa, iv 2, rv se, rv bu, rv r1, .unset, .unset] [(.int 0)])) (fun t k => X50.arraylength hx Ar_51.1 (State.isArrayOf_alike hZ.alike Ar_51.2.1) (g := (mkF m 155 #[iv p0, iv p1, iv p2, iv p3, iv p4, iv bg, iv n1, rv fa, iv 2, rv se, rv bu, rv r1, .unset, .unset] [(.ref r1)])) rfl rfl (hb hby at_155) t (by rw [len_of S_51 M_51]; exact k)) ?_
    refine oS (B := T50.setTop (mkF m 161 #[iv p0, iv p1, iv p2, iv p3, iv p4, iv bg, iv n1, rv fa, iv 2, rv se, rv bu, rv r1, .unset, .unset] [])) (fun t k => XS.ifYes X50.here hx rfl (pc0 := 156) (pc' := 161) rfl (hb hby at_156) rfl ((if0 _ _).trans (teq rfl).1) (by decide) (by decide) k) ?_
    refine oS (B := T50.setTop (mkF m 163 #[iv p0, iv p1, iv p2, iv p3, iv p4, iv bg, iv n1, rv fa, iv 2, rv se, rv bu, rv r1, .unset, .unset] [(.ref bu)])) (fun t k => XS.aload X50.here hx rfl (hb hby at_161) rfl rfl k) ?_
    refine oS (B := T50.setTop (mkF m 165 #[iv p0, iv p1, iv p2, iv p3, iv p4, iv bg, iv n1, rv fa, iv 2, rv se, rv bu, rv r1, .unset, .unset] [(.ref se), (.ref bu)])) (fun t k => XS.aload X50.here hx rfl (hb hby at_163) rfl rfl k) ?_
    have lt_fa := V_fa.lt
    have lt_se := E_se.lt
    have lt_bu := E_bu.lt
    have lt_r1 := V_r1.lt
    obtain ⟨cq52, kq52, q52a, q52b, q52c⟩ := isOf hZ rfl E_bu
    obtain ⟨_, _, ⟨T52, L52, k52, n52⟩, -, X52, ⟨Lc52, hQ52, l52, y52, z52⟩, st52⟩ := X50.virtualBack hx (y := (⟨"com/example/loomwire/loomwire/transport/MessageBuffer", "append", "([B)V"⟩ : MethodName)) (z := (⟨"com/example/loomwire/loomwire/transport/MessageBuffer", "append", "([B)V"⟩ : MethodName)) hown (mvT hZ (ow hw 14 rfl)) (mvT hZ (ow hw 15 rfl)) (notFace_of_selects (args := #[]) (mvT hZ (ow hw 17 rfl))) (mvT hZ (ow hw 17 rfl)) (mvT hZ (ow hw 16 rfl)) (by decide) (backOf (W := 0) (rms_2 l Z a0 hw [] bu se em ke de kd _ _ T50.heap n0 Z0 E_bu g_bu F_full_bu F_last_bu F_lastLength_bu F_length_bu BB O0 (Ne.symm ne_se_bu) V_se) hZ (ow hw 18 rfl) (ow hw 3 rfl) (by decide) (by decide)) q52a q52c (g := (mkF m 165 #[iv p0, iv p1, iv p2, iv p3, iv p4, iv bg, iv n1, rv fa, iv 2, rv se, rv bu, rv r1, .unset, .unset] [(.ref se), (.ref bu)])) rfl (by rw [hml]; rfl) (Steps.refl _) (argsL := [(.ref se)]) (rest := []) (lenOf pd_8 rfl) rfl (by show 2 * 0 + _ ≤ _; exact Nat.le_of_eq rfl) (hb hby at_165) (fun _ _ => ⟨rfl, rfl, (by decide : 8 + 1 ≤ _), (by decide : 131098 + 4 ≤ _)⟩)
    dsimp only [Pt.U, Pt.locs, Pt.cells, Pt.slots] at X52 l52 y52 z52 st52 hQ52
    subst l52 y52 z52
    obtain ⟨la, kla, vla, rfl, N52q, K52, F_full_bu, F_last_bu, F_lastLength_bu, F_length_bu, g_la, sz'_la, E_la, V_la, hv_la⟩ := hQ52
    have N0 := Fr.app N0 N52q
    have E_em := E_em.keep K52
    have V_em := V_em.keep K52 (ninS ne_em_bu nin0)
    have V_de := V_de.keep K52 (ninS ne_de_bu nin0)
    have V_fa := V_fa.keep K52 (ninS ne_fa_bu nin0)
    have E_se := E_se.keep K52
    have V_se := V_se.keep K52 (ninS ne_se_bu nin0)
    have E_bu := E_bu.keep K52
    have V_r1 := V_r1.keep K52 (ninS (Ne.symm ne_bu_r1) nin0)
    have Z0 := Nat.le_trans Z0 K52.1
    have O0 := O0.keep K52 (allS g_bu all0)
    have ne_fa_la : fa ≠ la := Nat.ne_of_lt (Nat.lt_of_lt_of_le lt_fa sz'_la)
    have ne_se_la : se ≠ la := Nat.ne_of_lt (Nat.lt_of_lt_of_le lt_se sz'_la)
    have ne_bu_la : bu ≠ la := Nat.ne_of_lt (Nat.lt_of_lt_of_le lt_bu sz'_la)
    have ne_r1_la : r1 ≠ la := Nat.ne_of_lt (Nat.lt_of_lt_of_le lt_r1 sz'_la)
    refine oS (B := T52.setTop (mkF m 168 #[iv p0, iv p1, iv p2, iv p3, iv p4, iv bg, iv n1, rv fa, iv 2, rv se, rv bu, rv r1, .unset, .unset] [])) (fun t k => st52.trans k) ?_
    refine oS (B := T52.setTop (mkF m 170 #[iv p0, iv p1, iv p2, iv p3, iv p4, iv bg, iv n1, rv fa, iv 2, rv se, rv bu, rv r1, .unset, .unset] [(.ref bu)])) (fun t k => XS.aload X52.here hx rfl (hb hby at_168) rfl rfl k) ?_
    obtain ⟨cq53, kq53, q53a, q53b, q53c⟩ := isOf hZ rfl E_bu
    obtain ⟨_, _, ⟨T53, L53, k53, n53⟩, -, X53, ⟨Lc53, hQ53, l53, y53, z53⟩, st53⟩ := X52.virtualBack hx (y := (⟨"com/example/loomwire/loomwire/transport/MessageBuffer", "length", "()I"⟩ : MethodName)) (z := (⟨"com/example/loomwire/loomwire/transport/MessageBuffer", "length", "()I"⟩ : MethodName)) hown (mvT hZ (ow hw 30 rfl)) (mvT hZ (ow hw 31 rfl)) (notFace_of_selects (args := #[]) (mvT hZ (ow hw 33 rfl))) (mvT hZ (ow hw 33 rfl)) (mvT hZ (ow hw 32 rfl)) (by decide) (backOf (W := 0) (rm5 l Z a0 hw [] bu (2 : Int32) T52.heap n0 Z0 F_length_bu) hZ (ow hw 34 rfl) (ow hw 3 rfl) (by decide) (by decide)) q53a q53c (g := (mkF m 170 #[iv p0, iv p1, iv p2, iv p3, iv p4, iv bg, iv n1, rv fa, iv 2, rv se, rv bu, rv r1, .unset, .unset] [(.ref bu)])) rfl (by rw [hml]; rfl) (Steps.refl _) (argsL := []) (rest := []) (lenOf pd_9 rfl) rfl (by show 2 * 0 + _ ≤ _; exact Nat.le_of_eq rfl) (hb hby at_170) (fun _ _ => ⟨rfl, rfl, (by decide : 9 + 0 ≤ _), (by decide : 131102 + 0 ≤ _)⟩)
    dsimp only [Pt.U, Pt.locs, Pt.cells, Pt.slots] at X53 l53 y53 z53 st53 hQ53
    subst l53 y53 z53
    obtain ⟨rfl, N53q, e53⟩ := hQ53
    have N0 := Fr.app N0 N53q
    refine oS (B := T53.setTop (mkF m 173 #[iv p0, iv p1, iv p2, iv p3, iv p4, iv bg, iv n1, rv fa, iv 2, rv se, rv bu, rv r1, .unset, .unset] [(.int 2)])) (fun t k => st53.trans k) ?_
    refine oS (B := T53.setTop (mkF m 175 #[iv p0, iv p1, iv p2, iv p3, iv p4, iv bg, iv n1, rv fa, iv 2, rv se, rv bu, rv r1, .unset, .unset] [(.int 2), (.int 2)])) (fun t k => XS.iload X53.here hx rfl (hb hby at_173) rfl k) ?_
    refine oS (B := T53.setTop (mkF m 180 #[iv p0, iv p1, iv p2, iv p3, iv p4, iv bg, iv n1, rv fa, iv 2, rv se, rv bu, rv r1, .unset, .unset] [])) (fun t k => XS.icmpYes X53.here hx rfl (pc0 := 175) (pc' := 180) rfl (hb hby at_175) rfl (teq rfl).1 (by decide) (by decide) k) ?_
    refine oS (B := T53.setTop (mkF m 182 #[iv p0, iv p1, iv p2, iv p3, iv p4, iv bg, iv n1, rv fa, iv 2, rv se, rv bu, rv r1, .unset, .unset] [(.ref bu)])) (fun t k => XS.aload X53.here hx rfl (hb hby at_180) rfl rfl k) ?_
    have lt_fa := V_fa.lt
    have lt_se := E_se.lt
    have lt_bu := E_bu.lt
    have lt_r1 := V_r1.lt
    have lt_la := E_la.lt
    obtain ⟨cq54, kq54, q54a, q54b, q54c⟩ := isOf hZ e53 E_bu
    obtain ⟨_, _, ⟨T54, L54, k54, n54⟩, -, X54, ⟨Lc54, hQ54, l54, y54, z54⟩, st54⟩ := X53.virtualBack hx (y := (⟨"com/example/loomwire/loomwire/transport/MessageBuffer", "toArray", "()[B"⟩ : MethodName)) (z := (⟨"com/example/loomwire/loomwire/transport/MessageBuffer", "toArray", "()[B"⟩ : MethodName)) hown (mvT hZ (ow hw 35 rfl)) (mvT hZ (ow hw 36 rfl)) (notFace_of_selects (args := #[]) (mvT hZ (ow hw 38 rfl))) (mvT hZ (ow hw 38 rfl)) (mvT hZ (ow hw 37 rfl)) (by decide) (backOf (W := 0) (rmta l Z a0 hw [] bu la _ _ (2 : Int32) T52.heap n0 Z0 F_full_bu F_last_bu F_lastLength_bu E_la V_la (by decide)) hZ (ow hw 39 rfl) (ow hw 3 rfl) (by decide) (by decide)) q54a q54c (g := (mkF m 182 #[iv p0, iv p1, iv p2, iv p3, iv p4, iv bg, iv n1, rv fa, iv 2, rv se, rv bu, rv r1, .unset, .unset] [(.ref bu)])) rfl (by rw [hml]; rfl) (Steps.refl _) (argsL := []) (rest := []) (lenOf pd_10 rfl) rfl (by show 2 * 0 + _ ≤ _; exact Nat.le_of_eq rfl) (hb hby at_182) (fun _ _ => ⟨rfl, e53, (by decide : 9 + 1 ≤ _), (by decide : 131102 + 3 ≤ _)⟩)
    dsimp only [Pt.U, Pt.locs, Pt.cells, Pt.slots] at X54 l54 y54 z54 st54 hQ54
    subst l54 y54 z54
    obtain ⟨r2, kr2, vr2, rfl, N54q, K54, g_r2, sz'_r2, V_r2, hv_r2⟩ := hQ54
    have N0 := Fr.app N0 N54q
    have E_em := E_em.keep K54
    have V_em := V_em.keep K54 nin0
    have V_de := V_de.keep K54 nin0
    have V_fa := V_fa.keep K54 nin0
    have E_se := E_se.keep K54
    have V_se := V_se.keep K54 nin0
    have E_bu := E_bu.keep K54
    have V_r1 := V_r1.keep K54 nin0
    have F_full_bu := F_full_bu.keep K54 nin0
    have F_last_bu := F_last_bu.keep K54 nin0
    have F_lastLength_bu := F_lastLength_bu.keep K54 nin0
    have F_length_bu := F_length_bu.keep K54 nin0
    have E_la := E_la.keep K54
    have V_la := V_la.keep K54 nin0
    have Z0 := Nat.le_trans Z0 K54.1
    have O0 := O0.keep K54 all0
    have ne_fa_r2 : fa ≠ r2 := Nat.ne_of_lt (Nat.lt_of_lt_of_le lt_fa sz'_r2)
    have ne_se_r2 : se ≠ r2 := Nat.ne_of_lt (Nat.lt_of_lt_of_le lt_se sz'_r2)
    have ne_bu_r2 : bu ≠ r2 := Nat.ne_of_lt (Nat.lt_of_lt_of_le lt_bu sz'_r2)
    have ne_r1_r2 : r1 ≠ r2 := Nat.ne_of_lt (Nat.lt_of_lt_of_le lt_r1 sz'_r2)
    have ne_la_r2 : la ≠ r2 := Nat.ne_of_lt (Nat.lt_of_lt_of_le lt_la sz'_r2)
    refine oS (B := T54.setTop (mkF m 185 #[iv p0, iv p1, iv p2, iv p3, iv p4, iv bg, iv n1, rv fa, iv 2, rv se, rv bu, rv r1, .unset, .unset] [(.ref r2)])) (fun t k => st54.trans k) ?_
    refine oS (B := T54.setTop (mkF m 187 #[iv p0, iv p1, iv p2, iv p3, iv p4, iv bg, iv n1, rv fa, iv 2, rv se, rv bu, rv r1, rv r2, .unset] [])) (fun t k => XS.astore X54.here hx rfl (hb hby at_185) rfl rfl (l' := #[iv p0, iv p1, iv p2, iv p3, iv p4, iv bg, iv n1, rv fa, iv 2, rv se, rv bu, rv r1, rv r2, .unset]) rfl k) ?_
    refine oS (B := T54.setTop (mkF m 189 #[iv p0, iv p1, iv p2, iv p3, iv p4, iv bg, iv n1, rv fa, iv 2, rv se, rv bu, rv r1, rv r2, .unset] [(.ref r2)])) (fun t k => XS.aload X54.here hx rfl (hb hby at_187) rfl rfl k) ?_
    have Vo_55 := V_r2
    obtain ⟨cl_55, Ar_55, q_55, S_55, M_55, H_55, G_55⟩ := Vo_55
    refine oS (B := T54.setTop (mkF m 190 #[iv p0, iv p1, iv p2, iv p3, iv p4, iv bg, iv n1, rv fa, iv 2, rv se, rv bu, rv r1, rv r2, .unset] [(.int 2)])) (fun t k => X54.arraylength hx Ar_55.1 (State.isArrayOf_alike hZ.alike Ar_55.2.1) (g := (mkF m 189 #[iv p0, iv p1, iv p2, iv p3, iv p4, iv bg, iv n1, rv fa, iv 2, rv se, rv bu, rv r1, rv r2, .unset] [(.ref r2)])) rfl rfl (hb hby at_189) t (by rw [len_of S_55 M_55]; exact k)) ?_
    refine oS (B := T54.setTop (mkF m 192 #[iv p0, iv p1, iv p2, iv p3, iv p4, iv bg, iv n1, rv fa, iv 2, rv se, rv bu, rv r1, rv r2, .unset] [(.int 2), (.int 2)])) (fun t k => XS.iload X54.here hx rfl (hb hby at_190) rfl k) ?_
    refine oS (B := T54.setTop (mkF m 197 #[iv p0, iv p1, iv p2, iv p3, iv p4, iv bg, iv n1, rv fa, iv 2, rv se, rv bu, rv r1, rv r2, .unset] [])) (fun t k => XS.icmpYes X54.here hx rfl (pc0 := 192) (pc' := 197) rfl (hb hby at_192) rfl (teq rfl).1 (by decide) (by decide) k) ?_
    refine oS (B := T54.setTop (mkF m 198 #[iv p0, iv p1, iv p2, iv p3, iv p4, iv bg, iv n1, rv fa, iv 2, rv se, rv bu, rv r1, rv r2, .unset] [(.int 1)])) (fun t k => XS.iconst X54.here hx rfl (hb hby at_197) k) ?_
    refine oS (B := T54.setTop (mkF m 200 #[iv p0, iv p1, iv p2, iv p3, iv p4, iv bg, iv n1, rv fa, iv 2, rv se, rv bu, rv r1, rv r2, iv 1] [])) (fun t k => XS.istore X54.here hx rfl (hb hby at_198) rfl (l' := #[iv p0, iv p1, iv p2, iv p3, iv p4, iv bg, iv n1, rv fa, iv 2, rv se, rv bu, rv r1, rv r2, iv 1]) rfl k) ?_
    refine oS (B := T54.setTop (mkF m 202 #[iv p0, iv p1, iv p2, iv p3, iv p4, iv bg, iv n1, rv fa, iv 2, rv se, rv bu, rv r1, rv r2, iv 1] [(.int 2)])) (fun t k => XS.iload X54.here hx rfl (hb hby at_200) rfl k) ?_
    refine oS (B := T54.setTop (mkF m 205 #[iv p0, iv p1, iv p2, iv p3, iv p4, iv bg, iv n1, rv fa, iv 2, rv se, rv bu, rv r1, rv r2, iv 1] [])) (fun t k => XS.ifNo X54.here hx rfl (hb hby at_202) rfl ((if0 _ _).trans (tlt (by decide)).2.2.2) k) ?_
    refine oS (B := T54.setTop (mkF m 207 #[iv p0, iv p1, iv p2, iv p3, iv p4, iv bg, iv n1, rv fa, iv 2, rv se, rv bu, rv r1, rv r2, iv 1] [(.int 1)])) (fun t k => XS.iload X54.here hx rfl (hb hby at_205) rfl k) ?_
    refine oS (B := T54.setTop (mkF m 210 #[iv p0, iv p1, iv p2, iv p3, iv p4, iv bg, iv n1, rv fa, iv 2, rv se, rv bu, rv r1, rv r2, iv 1] [])) (fun t k => XS.ifNo X54.here hx rfl (hb hby at_207) rfl ((if0 _ _).trans (feq (by decide)).1) k) ?_
    refine oS (B := T54.setTop (mkF m 212 #[iv p0, iv p1, iv p2, iv p3, iv p4, iv bg, iv n1, rv fa, iv 2, rv se, rv bu, rv r1, rv r2, iv 1] [(.ref r2)])) (fun t k => XS.aload X54.here hx rfl (hb hby at_210) rfl rfl k) ?_
    refine oS (B := T54.setTop (mkF m 213 #[iv p0, iv p1, iv p2, iv p3, iv p4, iv bg, iv n1, rv fa, iv 2, rv se, rv bu, rv r1, rv r2, iv 1] [(.int 0), (.ref r2)])) (fun t k => XS.iconst X54.here hx rfl (hb hby at_212) k) ?_
    have Vo_56 := V_r2
    obtain ⟨cl_56, Ar_56, q_56, S_56, M_56, H_56, G_56⟩ := Vo_56
    refine oS (B := T54.setTop (mkF m 214 #[iv p0, iv p1, iv p2, iv p3, iv p4, iv bg, iv n1, rv fa, iv 2, rv se, rv bu, rv r1, rv r2, iv 1] [(.int (nar .byte (p3.toInt8.toInt32)))])) (fun t k => X54.baloadBytes hx (j := (0 : Int32)) (v := (.int (nar .byte (p3.toInt8.toInt32)))) Ar_56.1 (State.isArrayOf_alike hZ.alike Ar_56.2.1) Ar_56.2.2 (inb_of S_56 ⟨by decide, by decide⟩) (Has.at H_56 (inb_of S_56 ⟨by decide, by decide⟩) ((hv_r2 0 (by decide)).trans (hv_la 0 (by decide)))) (g := (mkF m 213 #[iv p0, iv p1, iv p2, iv p3, iv p4, iv bg, iv n1, rv fa, iv 2, rv se, rv bu, rv r1, rv r2, iv 1] [(.int 0), (.ref r2)])) rfl rfl (hb hby at_213) t k) ?_
    refine oS (B := T54.setTop (mkF m 216 #[iv p0, iv p1, iv p2, iv p3, iv p4, iv bg, iv n1, rv fa, iv 2, rv se, rv bu, rv r1, rv r2, iv 1] [(.ref se), (.int (nar .byte (p3.toInt8.toInt32)))])) (fun t k => XS.aload X54.here hx rfl (hb hby at_214) rfl rfl k) ?_
    refine oS (B := T54.setTop (mkF m 217 #[iv p0, iv p1, iv p2, iv p3, iv p4, iv bg, iv n1, rv fa, iv 2, rv se, rv bu, rv r1, rv r2, iv 1] [(.int 0), (.ref se), (.int (nar .byte (p3.toInt8.toInt32)))])) (fun t k => XS.iconst X54.here hx rfl (hb hby at_216) k) ?_
    have Vo_57 := V_se
    obtain ⟨cl_57, Ar_57, q_57, S_57, M_57, H_57, G_57⟩ := Vo_57
    refine oS (B := T54.setTop (mkF m 218 #[iv p0, iv p1, iv p2, iv p3, iv p4, iv bg, iv n1, rv fa, iv 2, rv se, rv bu, rv r1, rv r2, iv 1] [(.int (nar .byte (p3.toInt8.toInt32))), (.int (nar .byte (p3.toInt8.toInt32)))])) (fun t k => X54.baloadBytes hx (j := (0 : Int32)) (v := (.int (nar .byte (p3.toInt8.toInt32)))) Ar_57.1 (State.isArrayOf_alike hZ.alike Ar_57.2.1) Ar_57.2.2 (inb_of S_57 ⟨by decide, by decide⟩) (Has.at H_57 (inb_of S_57 ⟨by decide, by decide⟩) rfl) (g := (mkF m 217 #[iv p0, iv p1, iv p2, iv p3, iv p4, iv bg, iv n1, rv fa, iv 2, rv se, rv bu, rv r1, rv r2, iv 1] [(.int 0), (.ref se), (.int (nar .byte (p3.toInt8.toInt32)))])) rfl rfl (hb hby at_217) t k) ?_
    refine oS (B := T54.setTop (mkF m 221 #[iv p0, iv p1, iv p2, iv p3, iv p4, iv bg, iv n1, rv fa, iv 2, rv se, rv bu, rv r1, rv r2, iv 1] [])) (fun t k => XS.icmpNo X54.here hx rfl (hb hby at_218) rfl (teq rfl).2 k) ?_
    refine oS (B := T54.setTop (mkF m 222 #[iv p0, iv p1, iv p2, iv p3, iv p4, iv bg, iv n1, rv fa, iv 2, rv se, rv bu, rv r1, rv r2, iv 1] [(.int 1)])) (fun t k => XS.iconst X54.here hx rfl (hb hby at_221) k) ?_
    refine oS (B := T54.setTop (mkF m 226 #[iv p0, iv p1, iv p2, iv p3, iv p4, iv bg, iv n1, rv fa, iv 2, rv se, rv bu, rv r1, rv r2, iv 1] [(.int 1)])) (fun t k => XS.goto X54.here hx rfl (pc0 := 222) (pc' := 226) rfl (hb hby at_222) (by decide) (by decide) k) ?_
    refine oS (B := T54.setTop (mkF m 228 #[iv p0, iv p1, iv p2, iv p3, iv p4, iv bg, iv n1, rv fa, iv 2, rv se, rv bu, rv r1, rv r2, iv 1] [])) (fun t k => XS.istore X54.here hx rfl (hb hby at_226) rfl (l' := #[iv p0, iv p1, iv p2, iv p3, iv p4, iv bg, iv n1, rv fa, iv 2, rv se, rv bu, rv r1, rv r2, iv 1]) rfl k) ?_
    refine oS (B := T54.setTop (mkF m 230 #[iv p0, iv p1, iv p2, iv p3, iv p4, iv bg, iv n1, rv fa, iv 2, rv se, rv bu, rv r1, rv r2, iv 1] [(.int 2)])) (fun t k => XS.iload X54.here hx rfl (hb hby at_228) rfl k) ?_
    refine oS (B := T54.setTop (mkF m 231 #[iv p0, iv p1, iv p2, iv p3, iv p4, iv bg, iv n1, rv fa, iv 2, rv se, rv bu, rv r1, rv r2, iv 1] [(.int 1), (.int 2)])) (fun t k => XS.iconst X54.here hx rfl (hb hby at_230) k) ?_
    refine oS (B := T54.setTop (mkF m 234 #[iv p0, iv p1, iv p2, iv p3, iv p4, iv bg, iv n1, rv fa, iv 2, rv se, rv bu, rv r1, rv r2, iv 1] [])) (fun t k => XS.icmpNo X54.here hx rfl (hb hby at_231) rfl (tlt (by decide)).2.2.2 k) ?_
    refine oS (B := T54.setTop (mkF m 236 #[iv p0, iv p1, iv p2, iv p3, iv p4, iv bg, iv n1, rv fa, iv 2, rv se, rv bu, rv r1, rv r2, iv 1] [(.int 1)])) (fun t k => XS.iload X54.here hx rfl (hb hby at_234) rfl k) ?_
    refine oS (B := T54.setTop (mkF m 239 #[iv p0, iv p1, iv p2, iv p3, iv p4, iv bg, iv n1, rv fa, iv 2, rv se, rv bu, rv r1, rv r2, iv 1] [])) (fun t k => XS.ifNo X54.here hx rfl (hb hby at_236) rfl ((if0 _ _).trans (feq (by decide)).1) k) ?_
    refine oS (B := T54.setTop (mkF m 241 #[iv p0, iv p1, iv p2, iv p3, iv p4, iv bg, iv n1, rv fa, iv 2, rv se, rv bu, rv r1, rv r2, iv 1] [(.ref r2)])) (fun t k => XS.aload X54.here hx rfl (hb hby at_239) rfl rfl k) ?_
    refine oS (B := T54.setTop (mkF m 242 #[iv p0, iv p1, iv p2, iv p3, iv p4, iv bg, iv n1, rv fa, iv 2, rv se, rv bu, rv r1, rv r2, iv 1] [(.int 1), (.ref r2)])) (fun t k => XS.iconst X54.here hx rfl (hb hby at_241) k) ?_
    have Vo_58 := V_r2
    obtain ⟨cl_58, Ar_58, q_58, S_58, M_58, H_58, G_58⟩ := Vo_58
    refine oS (B := T54.setTop (mkF m 243 #[iv p0, iv p1, iv p2, iv p3, iv p4, iv bg, iv n1, rv fa, iv 2, rv se, rv bu, rv r1, rv r2, iv 1] [(.int (nar .byte (((p3.toUInt32 >>> ((8 : Int32) &&& 31).toUInt32).toInt32).toInt8.toInt32)))])) (fun t k => X54.baloadBytes hx (j := (1 : Int32)) (v := (.int (nar .byte (((p3.toUInt32 >>> ((8 : Int32) &&& 31).toUInt32).toInt32).toInt8.toInt32)))) Ar_58.1 (State.isArrayOf_alike hZ.alike Ar_58.2.1) Ar_58.2.2 (inb_of S_58 ⟨by decide, by decide⟩) (Has.at H_58 (inb_of S_58 ⟨by decide, by decide⟩) ((hv_r2 1 (by decide)).trans (hv_la 1 (by decide)))) (g := (mkF m 242 #[iv p0, iv p1, iv p2, iv p3, iv p4, iv bg, iv n1, rv fa, iv 2, rv se, rv bu, rv r1, rv r2, iv 1] [(.int 1), (.ref r2)])) rfl rfl (hb hby at_242) t k) ?_
    refine oS (B := T54.setTop (mkF m 245 #[iv p0, iv p1, iv p2, iv p3, iv p4, iv bg, iv n1, rv fa, iv 2, rv se, rv bu, rv r1, rv r2, iv 1] [(.ref se), (.int (nar .byte (((p3.toUInt32 >>> ((8 : Int32) &&& 31).toUInt32).toInt32).toInt8.toInt32)))])) (fun t k => XS.aload X54.here hx rfl (hb hby at_243) rfl rfl k) ?_
    refine oS (B := T54.setTop (mkF m 246 #[iv p0, iv p1, iv p2, iv p3, iv p4, iv bg, iv n1, rv fa, iv 2, rv se, rv bu, rv r1, rv r2, iv 1] [(.int 1), (.ref se), (.int (nar .byte (((p3.toUInt32 >>> ((8 : Int32) &&& 31).toUInt32).toInt32).toInt8.toInt32)))])) (fun t k => XS.iconst X54.here hx rfl (hb hby at_245) k) ?_
    have Vo_59 := V_se
    obtain ⟨cl_59, Ar_59, q_59, S_59, M_59, H_59, G_59⟩ := Vo_59
    refine oS (B := T54.setTop (mkF m 247 #[iv p0, iv p1, iv p2, iv p3, iv p4, iv bg, iv n1, rv fa, iv 2, rv se, rv bu, rv r1, rv r2, iv 1] [(.int (nar .byte (((p3.toUInt32 >>> ((8 : Int32) &&& 31).toUInt32).toInt32).toInt8.toInt32))), (.int (nar .byte (((p3.toUInt32 >>> ((8 : Int32) &&& 31).toUInt32).toInt32).toInt8.toInt32)))])) (fun t k => X54.baloadBytes hx (j := (1 : Int32)) (v := (.int (nar .byte (((p3.toUInt32 >>> ((8 : Int32) &&& 31).toUInt32).toInt32).toInt8.toInt32)))) Ar_59.1 (State.isArrayOf_alike hZ.alike Ar_59.2.1) Ar_59.2.2 (inb_of S_59 ⟨by decide, by decide⟩) (Has.at H_59 (inb_of S_59 ⟨by decide, by decide⟩) rfl) (g := (mkF m 246 #[iv p0, iv p1, iv p2, iv p3, iv p4, iv bg, iv n1, rv fa, iv 2, rv se, rv bu, rv r1, rv r2, iv 1] [(.int 1), (.ref se), (.int (nar .byte (((p3.toUInt32 >>> ((8 : Int32) &&& 31).toUInt32).toInt32).toInt8.toInt32)))])) rfl rfl (hb hby at_246) t k) ?_
    refine oS (B := T54.setTop (mkF m 250 #[iv p0, iv p1, iv p2, iv p3, iv p4, iv bg, iv n1, rv fa, iv 2, rv se, rv bu, rv r1, rv r2, iv 1] [])) (fun t k => XS.icmpNo X54.here hx rfl (hb hby at_247) rfl (teq rfl).2 k) ?_
    refine oS (B := T54.setTop (mkF m 251 #[iv p0, iv p1, iv p2, iv p3, iv p4, iv bg, iv n1, rv fa, iv 2, rv se, rv bu, rv r1, rv r2, iv 1] [(.int 1)])) (fun t k => XS.iconst X54.here hx rfl (hb hby at_250) k) ?_
    refine oS (B := T54.setTop (mkF m 255 #[iv p0, iv p1, iv p2, iv p3, iv p4, iv bg, iv n1, rv fa, iv 2, rv se, rv bu, rv r1, rv r2, iv 1] [(.int 1)])) (fun t k => XS.goto X54.here hx rfl (pc0 := 251) (pc' := 255) rfl (hb hby at_251) (by decide) (by decide) k) ?_
    refine oS (B := T54.setTop (mkF m 257 #[iv p0, iv p1, iv p2, iv p3, iv p4, iv bg, iv n1, rv fa, iv 2, rv se, rv bu, rv r1, rv r2, iv 1] [])) (fun t k => XS.istore X54.here hx rfl (hb hby at_255) rfl (l' := #[iv p0, iv p1, iv p2, iv p3, iv p4, iv bg, iv n1, rv fa, iv 2, rv se, rv bu, rv r1, rv r2, iv 1]) rfl k) ?_
    refine oS (B := T54.setTop (mkF m 259 #[iv p0, iv p1, iv p2, iv p3, iv p4, iv bg, iv n1, rv fa, iv 2, rv se, rv bu, rv r1, rv r2, iv 1] [(.int 2)])) (fun t k => XS.iload X54.here hx rfl (hb hby at_257) rfl k) ?_
    refine oS (B := T54.setTop (mkF m 260 #[iv p0, iv p1, iv p2, iv p3, iv p4, iv bg, iv n1, rv fa, iv 2, rv se, rv bu, rv r1, rv r2, iv 1] [(.int 2), (.int 2)])) (fun t k => XS.iconst X54.here hx rfl (hb hby at_259) k) ?_
    refine oS (B := T54.setTop (mkF m 286 #[iv p0, iv p1, iv p2, iv p3, iv p4, iv bg, iv n1, rv fa, iv 2, rv se, rv bu, rv r1, rv r2, iv 1] [])) (fun t k => XS.icmpYes X54.here hx rfl (pc0 := 260) (pc' := 286) rfl (hb hby at_260) rfl (flt (by decide)).2.2.2 (by decide) (by decide) k) ?_
    refine oS (B := T54.setTop (mkF m 288 #[iv p0, iv p1, iv p2, iv p3, iv p4, iv bg, iv n1, rv fa, iv 2, rv se, rv bu, rv r1, rv r2, iv 1] [(.int 1)])) (fun t k => XS.iload X54.here hx rfl (hb hby at_286) rfl k) ?_
    exact own_retN X54 hx hlk (t := .boolean) Bd.returns (by simp) (hb hby at_288) (by decide) (by decide) (by exact ⟨rfl, N0⟩)
  · skip
    refine oS (B := T11.setTop (mkF m 72 #[iv p0, iv p1, iv p2, iv p3, iv p4, iv bg, iv n1, rv fa, iv 3, .unset, .unset, .unset, .unset, .unset] [(.int 3)])) (fun t k => XS.iload X11.here hx rfl (hb hby at_70) rfl k) ?_
    obtain ⟨T60, h60, k60, X60, e60, E60, A60, EE60, st60⟩ := newPE X11 hx hZ (ow hw 0 rfl) e11 (g := (mkF m 72 #[iv p0, iv p1, iv p2, iv p3, iv p4, iv bg, iv n1, rv fa, iv 3, .unset, .unset, .unset, .unset, .unset] [(.int 3)])) rfl (hb hby at_72) rfl (by decide) (cap := 3) (by decide) (by decide) (by decide) (by decide) (ad := "[B") rfl
    obtain ⟨se, g60⟩ : ∃ z, z = H11.size := ⟨_, rfl⟩
    rw [← g60] at A60 EE60 st60
    have g_se : n0 ≤ se := Nat.le_trans Z0 (Nat.le_of_eq g60.symm)
    have ne_em_se : em ≠ se := Nat.ne_of_lt (Nat.lt_of_lt_of_le E_em.lt (Nat.le_of_eq g60.symm))
    have ne_de_se : de ≠ se := Nat.ne_of_lt (Nat.lt_of_lt_of_le V_de.lt (Nat.le_of_eq g60.symm))
    have ne_fa_se : fa ≠ se := Nat.ne_of_lt (Nat.lt_of_lt_of_le V_fa.lt (Nat.le_of_eq g60.symm))
    have E_em := E_em.ext E60
    have V_em := V_em.ext E60
    have V_de := V_de.ext E60
    have V_fa := V_fa.ext E60
    have Z0 := Nat.le_trans Z0 E60.1
    have O0 := O0.ext E60
    have E_se := EE60
    have K_se := A60
    have V_se : Arv Z h60 se k60 .byte (3 : Int32) [(.int 0), (.int 0), (.int 0)] (.int 0) := (Arv.new A60 (by decide)).pad (pad_rep [] (.int 0) 3)
    refine oS (B := T60.setTop (mkF m 74 #[iv p0, iv p1, iv p2, iv p3, iv p4, iv bg, iv n1, rv fa, iv 3, .unset, .unset, .unset, .unset, .unset] [(.ref se)])) (fun t k => st60 t k) ?_
    refine oS (B := T60.setTop (mkF m 76 #[iv p0, iv p1, iv p2, iv p3, iv p4, iv bg, iv n1, rv fa, iv 3, rv se, .unset, .unset, .unset, .unset] [])) (fun t k => XS.astore X60.here hx rfl (hb hby at_74) rfl rfl (l' := #[iv p0, iv p1, iv p2, iv p3, iv p4, iv bg, iv n1, rv fa, iv 3, rv se, .unset, .unset, .unset, .unset]) rfl k) ?_
    refine oS (B := T60.setTop (mkF m 78 #[iv p0, iv p1, iv p2, iv p3, iv p4, iv bg, iv n1, rv fa, iv 3, rv se, .unset, .unset, .unset, .unset] [(.int 3)])) (fun t k => XS.iload X60.here hx rfl (hb hby at_76) rfl k) ?_
    refine oS (B := T60.setTop (mkF m 81 #[iv p0, iv p1, iv p2, iv p3, iv p4, iv bg, iv n1, rv fa, iv 3, rv se, .unset, .unset, .unset, .unset] [])) (fun t k => XS.ifNo X60.here hx rfl (hb hby at_78) rfl ((if0 _ _).trans (tlt (by decide)).2.2.2) k) ?_
    refine oS (B := T60.setTop (mkF m 83 #[iv p0, iv p1, iv p2, iv p3, iv p4, iv bg, iv n1, rv fa, iv 3, rv se, .unset, .unset, .unset, .unset] [(.ref se)])) (fun t k => XS.aload X60.here hx rfl (hb hby at_81) rfl rfl k) ?_
    refine oS (B := T60.setTop (mkF m 84 #[iv p0, iv p1, iv p2, iv p3, iv p4, iv bg, iv n1, rv fa, iv 3, rv se, .unset, .unset, .unset, .unset] [(.int 0), (.ref se)])) (fun t k => XS.iconst X60.here hx rfl (hb hby at_83) k) ?_
    refine oS (B := T60.setTop (mkF m 85 #[iv p0, iv p1, iv p2, iv p3, iv p4, iv bg, iv n1, rv fa, iv 3, rv se, .unset, .unset, .unset, .unset] [(.int p3), (.int 0), (.ref se)])) (fun t k => XS.iloadN X60.here hx rfl (hb hby at_84) rfl k) ?_
    refine oS (B := T60.setTop (mkF m 86 #[iv p0, iv p1, iv p2, iv p3, iv p4, iv bg, iv n1, rv fa, iv 3, rv se, .unset, .unset, .unset, .unset] [(.int (p3.toInt8.toInt32)), (.int 0), (.ref se)])) (fun t k => XS.i2b X60.here hx rfl (hb hby at_85) rfl k) ?_
    have Vo_61 := V_se
    obtain ⟨cl_61, Ar_61, q_61, S_61, M_61, H_61, G_61⟩ := Vo_61
    have hin62 : ¬ ((0 : Int32) < 0 ∨ cl_61.slots.size ≤ ((0 : Int32)).toNatClampNeg) := inb_of S_61 ⟨by decide, by decide⟩
    obtain ⟨T62, h62, X62, e62, W62, st62⟩ := stB X60 hx hZ e60 Ar_61 (j := (0 : Int32)) hin62 (g := (mkF m 86 #[iv p0, iv p1, iv p2, iv p3, iv p4, iv bg, iv n1, rv fa, iv 3, rv se, .unset, .unset, .unset, .unset] [(.int (p3.toInt8.toInt32)), (.int 0), (.ref se)])) rfl rfl (hb hby at_86)
    have E_em := E_em.wr W62
    have V_em := V_em.other W62 ne_em_se
    have V_de := V_de.other W62 ne_de_se
    have V_fa := V_fa.other W62 ne_fa_se
    have E_se := E_se.wr W62
    have Z0 := Nat.le_trans Z0 (Keep.of_wr W62).1
    have N0 := Fr.snoc X62 N0 g_se
    have O0 := O0.wr W62 g_se
    have V_se := Arv.set Ar_61 q_61 S_61 M_61 H_61 G_61 (fits_nar_byte _) W62 0 rfl (Nat.le_of_ble_eq_true rfl)
    change Arv Z h62 se k60 .byte (3 : Int32) [(.int (nar .byte (p3.toInt8.toInt32))), (.int 0), (.int 0)] (.int 0) at V_se
    refine oS (B := T62.setTop (mkF m 87 #[iv p0, iv p1, iv p2, iv p3, iv p4, iv bg, iv n1, rv fa, iv 3, rv se, .unset, .unset, .unset, .unset] [])) (fun t k => st62 t k) ?_
    refine oS (B := T62.setTop (mkF m 89 #[iv p0, iv p1, iv p2, iv p3, iv p4, iv bg, iv n1, rv fa, iv 3, rv se, .unset, .unset, .unset, .unset] [(.int 3)])) (fun t k => XS.iload X62.here hx rfl (hb hby at_87) rfl k) ?_
    refine oS (B := T62.setTop (mkF m 90 #[iv p0, iv p1, iv p2, iv p3, iv p4, iv bg, iv n1, rv fa, iv 3, rv se, .unset, .unset, .unset, .unset] [(.int 1), (.int 3)])) (fun t k => XS.iconst X62.here hx rfl (hb hby at_89) k) ?_
    refine oS (B := T62.setTop (mkF m 93 #[iv p0, iv p1, iv p2, iv p3, iv p4, iv bg, iv n1, rv fa, iv 3, rv se, .unset, .unset, .unset, .unset] [])) (fun t k => XS.icmpNo X62.here hx rfl (hb hby at_90) rfl (tlt (by decide)).2.2.2 k) ?_
    refine oS (B := T62.setTop (mkF m 95 #[iv p0, iv p1, iv p2, iv p3, iv p4, iv bg, iv n1, rv fa, iv 3, rv se, .unset, .unset, .unset, .unset] [(.ref se)])) (fun t k => XS.aload X62.here hx rfl (hb hby at_93) rfl rfl k) ?_
    refine oS (B := T62.setTop (mkF m 96 #[iv p0, iv p1, iv p2, iv p3, iv p4, iv bg, iv n1, rv fa, iv 3, rv se, .unset, .unset, .unset, .unset] [(.int 1), (.ref se)])) (fun t k => XS.iconst X62.here hx rfl (hb hby at_95) k) ?_
    refine oS (B := T62.setTop (mkF m 97 #[iv p0, iv p1, iv p2, iv p3, iv p4, iv bg, iv n1, rv fa, iv 3, rv se, .unset, .unset, .unset, .unset] [(.int p3), (.int 1), (.ref se)])) (fun t k => XS.iloadN X62.here hx rfl (hb hby at_96) rfl k) ?_
    refine oS (B := T62.setTop (mkF m 99 #[iv p0, iv p1, iv p2, iv p3, iv p4, iv bg, iv n1, rv fa, iv 3, rv se, .unset, .unset, .unset, .unset] [(.int 8), (.int p3), (.int 1), (.ref se)])) (fun t k => XS.bipush X62.here hx rfl (hb hby at_97) k) ?_
    refine oS (B := T62.setTop (mkF m 100 #[iv p0, iv p1, iv p2, iv p3, iv p4, iv bg, iv n1, rv fa, iv 3, rv se, .unset, .unset, .unset, .unset] [(.int ((p3.toUInt32 >>> ((8 : Int32) &&& 31).toUInt32).toInt32)), (.int 1), (.ref se)])) (fun t k => XS.iushr X62.here hx rfl (hb hby at_99) rfl k) ?_
    refine oS (B := T62.setTop (mkF m 101 #[iv p0, iv p1, iv p2, iv p3, iv p4, iv bg, iv n1, rv fa, iv 3, rv se, .unset, .unset, .unset, .unset] [(.int (((p3.toUInt32 >>> ((8 : Int32) &&& 31).toUInt32).toInt32).toInt8.toInt32)), (.int 1), (.ref se)])) (fun t k => XS.i2b X62.here hx rfl (hb hby at_100) rfl k) ?_
    have Vo_63 := V_se
    obtain ⟨cl_63, Ar_63, q_63, S_63, M_63, H_63, G_63⟩ := Vo_63
    have hin64 : ¬ ((1 : Int32) < 0 ∨ cl_63.slots.size ≤ ((1 : Int32)).toNatClampNeg) := inb_of S_63 ⟨by decide, by decide⟩
    obtain ⟨T64, h64, X64, e64, W64, st64⟩ := stB X62 hx hZ e62 Ar_63 (j := (1 : Int32)) hin64 (g := (mkF m 101 #[iv p0, iv p1, iv p2, iv p3, iv p4, iv bg, iv n1, rv fa, iv 3, rv se, .unset, .unset, .unset, .unset] [(.int (((p3.toUInt32 >>> ((8 : Int32) &&& 31).toUInt32).toInt32).toInt8.toInt32)), (.int 1), (.ref se)])) rfl rfl (hb hby at_101)
    have E_em := E_em.wr W64
    have V_em := V_em.other W64 ne_em_se
    have V_de := V_de.other W64 ne_de_se
    have V_fa := V_fa.other W64 ne_fa_se
    have E_se := E_se.wr W64
    have Z0 := Nat.le_trans Z0 (Keep.of_wr W64).1
    have N0 := Fr.snoc X64 N0 g_se
    have O0 := O0.wr W64 g_se
    have V_se := Arv.set Ar_63 q_63 S_63 M_63 H_63 G_63 (fits_nar_byte _) W64 1 rfl (Nat.le_of_ble_eq_true rfl)
    change Arv Z h64 se k60 .byte (3 : Int32) [(.int (nar .byte (p3.toInt8.toInt32))), (.int (nar .byte (((p3.toUInt32 >>> ((8 : Int32) &&& 31).toUInt32).toInt32).toInt8.toInt32))), (.int 0)] (.int 0) at V_se
    refine oS (B := T64.setTop (mkF m 102 #[iv p0, iv p1, iv p2, iv p3, iv p4, iv bg, iv n1, rv fa, iv 3, rv se, .unset, .unset, .unset, .unset] [])) (fun t k => st64 t k) ?_
    refine oS (B := T64.setTop (mkF m 104 #[iv p0, iv p1, iv p2, iv p3, iv p4, iv bg, iv n1, rv fa, iv 3, rv se, .unset, .unset, .unset, .unset] [(.int 3)])) (fun t k => XS.iload X64.here hx rfl (hb hby at_102) rfl k) ?_
    refine oS (B := T64.setTop (mkF m 105 #[iv p0, iv p1, iv p2, iv p3, iv p4, iv bg, iv n1, rv fa, iv 3, rv se, .unset, .unset, .unset, .unset] [(.int 2), (.int 3)])) (fun t k => XS.iconst X64.here hx rfl (hb hby at_104) k) ?_
    refine oS (B := T64.setTop (mkF m 108 #[iv p0, iv p1, iv p2, iv p3, iv p4, iv bg, iv n1, rv fa, iv 3, rv se, .unset, .unset, .unset, .unset] [])) (fun t k => XS.icmpNo X64.here hx rfl (hb hby at_105) rfl (tlt (by decide)).2.2.2 k) ?_
    refine oS (B := T64.setTop (mkF m 110 #[iv p0, iv p1, iv p2, iv p3, iv p4, iv bg, iv n1, rv fa, iv 3, rv se, .unset, .unset, .unset, .unset] [(.ref se)])) (fun t k => XS.aload X64.here hx rfl (hb hby at_108) rfl rfl k) ?_
    refine oS (B := T64.setTop (mkF m 111 #[iv p0, iv p1, iv p2, iv p3, iv p4, iv bg, iv n1, rv fa, iv 3, rv se, .unset, .unset, .unset, .unset] [(.int 2), (.ref se)])) (fun t k => XS.iconst X64.here hx rfl (hb hby at_110) k) ?_
    refine oS (B := T64.setTop (mkF m 113 #[iv p0, iv p1, iv p2, iv p3, iv p4, iv bg, iv n1, rv fa, iv 3, rv se, .unset, .unset, .unset, .unset] [(.int p4), (.int 2), (.ref se)])) (fun t k => XS.iload X64.here hx rfl (hb hby at_111) rfl k) ?_
    refine oS (B := T64.setTop (mkF m 114 #[iv p0, iv p1, iv p2, iv p3, iv p4, iv bg, iv n1, rv fa, iv 3, rv se, .unset, .unset, .unset, .unset] [(.int (p4.toInt8.toInt32)), (.int 2), (.ref se)])) (fun t k => XS.i2b X64.here hx rfl (hb hby at_113) rfl k) ?_
    have Vo_65 := V_se
    obtain ⟨cl_65, Ar_65, q_65, S_65, M_65, H_65, G_65⟩ := Vo_65
    have hin66 : ¬ ((2 : Int32) < 0 ∨ cl_65.slots.size ≤ ((2 : Int32)).toNatClampNeg) := inb_of S_65 ⟨by decide, by decide⟩
    obtain ⟨T66, h66, X66, e66, W66, st66⟩ := stB X64 hx hZ e64 Ar_65 (j := (2 : Int32)) hin66 (g := (mkF m 114 #[iv p0, iv p1, iv p2, iv p3, iv p4, iv bg, iv n1, rv fa, iv 3, rv se, .unset, .unset, .unset, .unset] [(.int (p4.toInt8.toInt32)), (.int 2), (.ref se)])) rfl rfl (hb hby at_114)
    have E_em := E_em.wr W66
    have V_em := V_em.other W66 ne_em_se
    have V_de := V_de.other W66 ne_de_se
    have V_fa := V_fa.other W66 ne_fa_se
    have E_se := E_se.wr W66
    have Z0 := Nat.le_trans Z0 (Keep.of_wr W66).1
    have N0 := Fr.snoc X66 N0 g_se
    have O0 := O0.wr W66 g_se
    have V_se := Arv.set Ar_65 q_65 S_65 M_65 H_65 G_65 (fits_nar_byte _) W66 2 rfl (Nat.le_of_ble_eq_true rfl)
    change Arv Z h66 se k60 .byte (3 : Int32) [(.int (nar .byte (p3.toInt8.toInt32))), (.int (nar .byte (((p3.toUInt32 >>> ((8 : Int32) &&& 31).toUInt32).toInt32).toInt8.toInt32))), (.int (nar .byte (p4.toInt8.toInt32)))] (.int 0) at V_se
    refine oS (B := T66.setTop (mkF m 115 #[iv p0, iv p1, iv p2, iv p3, iv p4, iv bg, iv n1, rv fa, iv 3, rv se, .unset, .unset, .unset, .unset] [])) (fun t k => st66 t k) ?_
    obtain ⟨T67, h67, X67, e67, E67, A67, D67, -, st67⟩ := newO X66 hx hZ hown (ow hw 1 rfl) (ow hw 2 rfl) (ow hw 3 rfl) e66 (g := (mkF m 115 #[iv p0, iv p1, iv p2, iv p3, iv p4, iv bg, iv n1, rv fa, iv 3, rv se, .unset, .unset, .unset, .unset] [])) rfl (hb hby at_115) (by decide) (by decide)
    obtain ⟨bu, g67⟩ : ∃ z, z = h66.size := ⟨_, rfl⟩
    rw [← g67] at A67 D67 st67
    have g_bu : n0 ≤ bu := Nat.le_trans Z0 (Nat.le_of_eq g67.symm)
    have ne_em_bu : em ≠ bu := Nat.ne_of_lt (Nat.lt_of_lt_of_le E_em.lt (Nat.le_of_eq g67.symm))
    have ne_de_bu : de ≠ bu := Nat.ne_of_lt (Nat.lt_of_lt_of_le V_de.lt (Nat.le_of_eq g67.symm))
    have ne_fa_bu : fa ≠ bu := Nat.ne_of_lt (Nat.lt_of_lt_of_le V_fa.lt (Nat.le_of_eq g67.symm))
    have ne_se_bu : se ≠ bu := Nat.ne_of_lt (Nat.lt_of_lt_of_le E_se.lt (Nat.le_of_eq g67.symm))
    have E_em := E_em.ext E67
    have V_em := V_em.ext E67
    have V_de := V_de.ext E67
    have V_fa := V_fa.ext E67
    have E_se := E_se.ext E67
    have V_se := V_se.ext E67
    have Z0 := Nat.le_trans Z0 E67.1
    have O0 := O0.ext E67
    have E_bu := A67
    have F_last_bu : Fld Z h67 bu "com/example/loomwire/loomwire/transport/MessageBuffer" "last" "[B" .null := D67 (Or.inl (ow hw 13 rfl)) (ty := (.array .byte)) (by decide)
    have F_length_bu : Fld Z h67 bu "com/example/loomwire/loomwire/transport/MessageBuffer" "length" "I" (.int 0) := D67 (Or.inl (ow hw 20 rfl)) (ty := .int) (by decide)
    have F_full_bu : Fld Z h67 bu "com/example/loomwire/loomwire/transport/MessageBuffer" "full" "Ljava/util/List;" .null := D67 (Or.inl (ow hw 27 rfl)) (ty := (.object "java/util/List")) (by decide)
    have F_lastLength_bu : Fld Z h67 bu "com/example/loomwire/loomwire/transport/MessageBuffer" "lastLength" "I" (.int 0) := D67 (Or.inl (ow hw 29 rfl)) (ty := .int) (by decide)
    refine oS (B := T67.setTop (mkF m 118 #[iv p0, iv p1, iv p2, iv p3, iv p4, iv bg, iv n1, rv fa, iv 3, rv se, .unset, .unset, .unset, .unset] [(.ref bu)])) (fun t k => st67 t k) ?_
    refine oS (B := T67.setTop (mkF m 119 #[iv p0, iv p1, iv p2, iv p3, iv p4, iv bg, iv n1, rv fa, iv 3, rv se, .unset, .unset, .unset, .unset] [(.ref bu), (.ref bu)])) (fun t k => XS.dup X67.here hx rfl (hb hby at_118) rfl rfl k) ?_
    obtain ⟨_, _, ⟨T68, L68, k68, n68⟩, -, X68, ⟨Lc68, hQ68, l68, y68, z68⟩, st68⟩ := X67.specialBack hx (y := (⟨"com/example/loomwire/loomwire/transport/MessageBuffer", "<init>", "()V"⟩ : MethodName)) rfl hown (mvT hZ (ow hw 4 rfl)) (mvT hZ (ow hw 5 rfl)) (mvT hZ (ow hw 6 rfl)) (by decide) (backOf (W := 1) (rm1 l Z a0 hw [] bu em ke de kd h67 n0 Z0 E_bu g_bu F_full_bu F_last_bu F_lastLength_bu F_length_bu BB O0) hZ (ow hw 6 rfl) (ow hw 3 rfl) (by decide) (by decide)) (g := (mkF m 119 #[iv p0, iv p1, iv p2, iv p3, iv p4, iv bg, iv n1, rv fa, iv 3, rv se, .unset, .unset, .unset, .unset] [(.ref bu), (.ref bu)])) rfl (by rw [hml]; rfl) (Steps.refl _) (a := bu) (argsL := []) (rest := [(.ref bu)]) (lenOf pd_2 rfl) rfl (by show 2 * 0 + _ ≤ _; exact Nat.le_of_eq rfl) (hb hby at_119) (fun _ _ => ⟨rfl, e67, (by decide : 3 + 0 ≤ _), (by decide : 65545 + 0 ≤ _)⟩)
    dsimp only [Pt.U, Pt.locs, Pt.cells, Pt.slots] at X68 l68 y68 z68 st68 hQ68
    subst l68 y68 z68
    obtain ⟨rfl, N68q, K68, G0_68, G1_68, G2_68, G3_68⟩ := hQ68
    have N0 := Fr.app N0 N68q
    have E_em := E_em.keep K68
    have V_em := V_em.keep K68 (ninS ne_em_bu nin0)
    have V_de := V_de.keep K68 (ninS ne_de_bu nin0)
    have V_fa := V_fa.keep K68 (ninS ne_fa_bu nin0)
    have E_se := E_se.keep K68
    have V_se := V_se.keep K68 (ninS ne_se_bu nin0)
    have E_bu := E_bu.keep K68
    have Z0 := Nat.le_trans Z0 K68.1
    have O0 := O0.keep K68 (allS g_bu all0)
    have F_full_bu := G0_68
    have F_last_bu := G1_68
    have F_lastLength_bu := G2_68
    have F_length_bu := G3_68
    refine oS (B := T68.setTop (mkF m 122 #[iv p0, iv p1, iv p2, iv p3, iv p4, iv bg, iv n1, rv fa, iv 3, rv se, .unset, .unset, .unset, .unset] [(.ref bu)])) (fun t k => st68.trans k) ?_
    refine oS (B := T68.setTop (mkF m 124 #[iv p0, iv p1, iv p2, iv p3, iv p4, iv bg, iv n1, rv fa, iv 3, rv se, rv bu, .unset, .unset, .unset] [])) (fun t k => XS.astore X68.here hx rfl (hb hby at_122) rfl rfl (l' := #[iv p0, iv p1, iv p2, iv p3, iv p4, iv bg, iv n1, rv fa, iv 3, rv se, rv bu, .unset, .unset, .unset]) rfl k) ?_
    refine oS (B := T68.setTop (mkF m 126 #[iv p0, iv p1, iv p2, iv p3, iv p4, iv bg, iv n1, rv fa, iv 3, rv se, rv bu, .unset, .unset, .unset] [(.ref bu)])) (fun t k => XS.aload X68.here hx rfl (hb hby at_124) rfl rfl k) ?_
    refine oS (B := T68.setTop (mkF m 128 #[iv p0, iv p1, iv p2, iv p3, iv p4, iv bg, iv n1, rv fa, iv 3, rv se, rv bu, .unset, .unset, .unset] [(.ref fa), (.ref bu)])) (fun t k => XS.aload X68.here hx rfl (hb hby at_126) rfl rfl k) ?_
    obtain ⟨cq69, kq69, q69a, q69b, q69c⟩ := isOf hZ rfl E_bu
    obtain ⟨_, _, ⟨T69, L69, k69, n69⟩, -, X69, ⟨Lc69, hQ69, l69, y69, z69⟩, st69⟩ := X68.virtualBack hx (y := (⟨"com/example/loomwire/loomwire/transport/MessageBuffer", "append", "([B)V"⟩ : MethodName)) (z := (⟨"com/example/loomwire/loomwire/transport/MessageBuffer", "append", "([B)V"⟩ : MethodName)) hown (mvT hZ (ow hw 14 rfl)) (mvT hZ (ow hw 15 rfl)) (notFace_of_selects (args := #[]) (mvT hZ (ow hw 17 rfl))) (mvT hZ (ow hw 17 rfl)) (mvT hZ (ow hw 16 rfl)) (by decide) (backOf (W := 0) (rma l Z a0 hw [] bu fa em ke de kd _ _ n1 T68.heap n0 Z0 E_bu g_bu F_full_bu F_last_bu F_lastLength_bu F_length_bu BB O0 (Ne.symm ne_fa_bu) hn1 V_fa) hZ (ow hw 18 rfl) (ow hw 3 rfl) (by decide) (by decide)) q69a q69c (g := (mkF m 128 #[iv p0, iv p1, iv p2, iv p3, iv p4, iv bg, iv n1, rv fa, iv 3, rv se, rv bu, .unset, .unset, .unset] [(.ref fa), (.ref bu)])) rfl (by rw [hml]; rfl) (Steps.refl _) (argsL := [(.ref fa)]) (rest := []) (lenOf pd_8 rfl) rfl (by show 2 * 0 + _ ≤ _; exact Nat.le_of_eq rfl) (hb hby at_128) (fun _ _ => ⟨rfl, rfl, (by decide : 3 + 4 ≤ _), (by decide : 65545 + 65551 ≤ _)⟩)
    dsimp only [Pt.U, Pt.locs, Pt.cells, Pt.slots] at X69 l69 y69 z69 st69 hQ69
    subst l69 y69 z69
    obtain ⟨vf, vl, vll, vlen, rfl, N69q, K69, F_full_bu, F_last_bu, F_lastLength_bu, F_length_bu⟩ := hQ69
    have N0 := Fr.app N0 N69q
    have E_em := E_em.keep K69
    have V_em := V_em.keep K69 (ninS ne_em_bu nin0)
    have V_de := V_de.keep K69 (ninS ne_de_bu nin0)
    have V_fa := V_fa.keep K69 (ninS ne_fa_bu nin0)
    have E_se := E_se.keep K69
    have V_se := V_se.keep K69 (ninS ne_se_bu nin0)
    have E_bu := E_bu.keep K69
    have Z0 := Nat.le_trans Z0 K69.1
    have O0 := O0.keep K69 (allS g_bu all0)
    refine oS (B := T69.setTop (mkF m 131 #[iv p0, iv p1, iv p2, iv p3, iv p4, iv bg, iv n1, rv fa, iv 3, rv se, rv bu, .unset, .unset, .unset] [])) (fun t k => st69.trans k) ?_
    refine oS (B := T69.setTop (mkF m 133 #[iv p0, iv p1, iv p2, iv p3, iv p4, iv bg, iv n1, rv fa, iv 3, rv se, rv bu, .unset, .unset, .unset] [(.ref bu)])) (fun t k => XS.aload X69.here hx rfl (hb hby at_131) rfl rfl k) ?_
    obtain ⟨cq70, kq70, q70a, q70b, q70c⟩ := isOf hZ rfl E_bu
    obtain ⟨_, _, ⟨T70, L70, k70, n70⟩, -, X70, ⟨Lc70, hQ70, l70, y70, z70⟩, st70⟩ := X69.virtualBack hx (y := (⟨"com/example/loomwire/loomwire/transport/MessageBuffer", "clear", "()V"⟩ : MethodName)) (z := (⟨"com/example/loomwire/loomwire/transport/MessageBuffer", "clear", "()V"⟩ : MethodName)) hown (mvT hZ (ow hw 21 rfl)) (mvT hZ (ow hw 22 rfl)) (notFace_of_selects (args := #[]) (mvT hZ (ow hw 24 rfl))) (mvT hZ (ow hw 24 rfl)) (mvT hZ (ow hw 23 rfl)) (by decide) (backOf (W := 0) (rm4 l Z a0 hw [] bu em ke de kd _ _ _ _ T69.heap n0 Z0 E_bu g_bu F_full_bu F_last_bu F_lastLength_bu F_length_bu BB O0) hZ (ow hw 25 rfl) (ow hw 3 rfl) (by decide) (by decide)) q70a q70c (g := (mkF m 133 #[iv p0, iv p1, iv p2, iv p3, iv p4, iv bg, iv n1, rv fa, iv 3, rv se, rv bu, .unset, .unset, .unset] [(.ref bu)])) rfl (by rw [hml]; rfl) (Steps.refl _) (argsL := []) (rest := []) (lenOf pd_2 rfl) rfl (by show 2 * 0 + _ ≤ _; exact Nat.le_of_eq rfl) (hb hby at_133) (fun _ _ => ⟨rfl, rfl, (by decide : 7 + 0 ≤ _), (by decide : 131096 + 0 ≤ _)⟩)
    dsimp only [Pt.U, Pt.locs, Pt.cells, Pt.slots] at X70 l70 y70 z70 st70 hQ70
    subst l70 y70 z70
    obtain ⟨rfl, N70q, K70, G0_70, G1_70, G2_70, G3_70⟩ := hQ70
    have N0 := Fr.app N0 N70q
    have E_em := E_em.keep K70
    have V_em := V_em.keep K70 (ninS ne_em_bu nin0)
    have V_de := V_de.keep K70 (ninS ne_de_bu nin0)
    have V_fa := V_fa.keep K70 (ninS ne_fa_bu nin0)
    have E_se := E_se.keep K70
    have V_se := V_se.keep K70 (ninS ne_se_bu nin0)
    have E_bu := E_bu.keep K70
    have Z0 := Nat.le_trans Z0 K70.1
    have O0 := O0.keep K70 (allS g_bu all0)
    have F_full_bu := G0_70
    have F_last_bu := G1_70
    have F_lastLength_bu := G2_70
    have F_length_bu := G3_70
    refine oS (B := T70.setTop (mkF m 136 #[iv p0, iv p1, iv p2, iv p3, iv p4, iv bg, iv n1, rv fa, iv 3, rv se, rv bu, .unset, .unset, .unset] [])) (fun t k => st70.trans k) ?_
    refine oS (B := T70.setTop (mkF m 138 #[iv p0, iv p1, iv p2, iv p3, iv p4, iv bg, iv n1, rv fa, iv 3, rv se, rv bu, .unset, .unset, .unset] [(.ref bu)])) (fun t k => XS.aload X70.here hx rfl (hb hby at_136) rfl rfl k) ?_
    obtain ⟨cq71, kq71, q71a, q71b, q71c⟩ := isOf hZ rfl E_bu
    obtain ⟨_, _, ⟨T71, L71, k71, n71⟩, -, X71, ⟨Lc71, hQ71, l71, y71, z71⟩, st71⟩ := X70.virtualBack hx (y := (⟨"com/example/loomwire/loomwire/transport/MessageBuffer", "length", "()I"⟩ : MethodName)) (z := (⟨"com/example/loomwire/loomwire/transport/MessageBuffer", "length", "()I"⟩ : MethodName)) hown (mvT hZ (ow hw 30 rfl)) (mvT hZ (ow hw 31 rfl)) (notFace_of_selects (args := #[]) (mvT hZ (ow hw 33 rfl))) (mvT hZ (ow hw 33 rfl)) (mvT hZ (ow hw 32 rfl)) (by decide) (backOf (W := 0) (rm5 l Z a0 hw [] bu (0 : Int32) T70.heap n0 Z0 F_length_bu) hZ (ow hw 34 rfl) (ow hw 3 rfl) (by decide) (by decide)) q71a q71c (g := (mkF m 138 #[iv p0, iv p1, iv p2, iv p3, iv p4, iv bg, iv n1, rv fa, iv 3, rv se, rv bu, .unset, .unset, .unset] [(.ref bu)])) rfl (by rw [hml]; rfl) (Steps.refl _) (argsL := []) (rest := []) (lenOf pd_9 rfl) rfl (by show 2 * 0 + _ ≤ _; exact Nat.le_of_eq rfl) (hb hby at_138) (fun _ _ => ⟨rfl, rfl, (by decide : 7 + 0 ≤ _), (by decide : 131096 + 0 ≤ _)⟩)
    dsimp only [Pt.U, Pt.locs, Pt.cells, Pt.slots] at X71 l71 y71 z71 st71 hQ71
    subst l71 y71 z71
    obtain ⟨rfl, N71q, e71⟩ := hQ71
    have N0 := Fr.app N0 N71q
    refine oS (B := T71.setTop (mkF m 141 #[iv p0, iv p1, iv p2, iv p3, iv p4, iv bg, iv n1, rv fa, iv 3, rv se, rv bu, .unset, .unset, .unset] [(.int 0)])) (fun t k => st71.trans k) ?_
    refine oS (B := T71.setTop (mkF m 146 #[iv p0, iv p1, iv p2, iv p3, iv p4, iv bg, iv n1, rv fa, iv 3, rv se, rv bu, .unset, .unset, .unset] [])) (fun t k => XS.ifYes X71.here hx rfl (pc0 := 141) (pc' := 146) rfl (hb hby at_141) rfl ((if0 _ _).trans (teq rfl).1) (by decide) (by decide) k) ?_
    refine oS (B := T71.setTop (mkF m 148 #[iv p0, iv p1, iv p2, iv p3, iv p4, iv bg, iv n1, rv fa, iv 3, rv se, rv bu, .unset, .unset, .unset] [(.ref bu)])) (fun t k => XS.aload X71.here hx rfl (hb hby at_146) rfl rfl k) ?_
    have lt_fa := V_fa.lt
    have lt_se := E_se.lt
    have lt_bu := E_bu.lt
    obtain ⟨cq72, kq72, q72a, q72b, q72c⟩ := isOf hZ e71 E_bu
    obtain ⟨_, _, ⟨T72, L72, k72, n72⟩, -, X72, ⟨Lc72, hQ72, l72, y72, z72⟩, st72⟩ := X71.virtualBack hx (y := (⟨"com/example/loomwire/loomwire/transport/MessageBuffer", "toArray", "()[B"⟩ : MethodName)) (z := (⟨"com/example/loomwire/loomwire/transport/MessageBuffer", "toArray", "()[B"⟩ : MethodName)) hown (mvT hZ (ow hw 35 rfl)) (mvT hZ (ow hw 36 rfl)) (notFace_of_selects (args := #[]) (mvT hZ (ow hw 38 rfl))) (mvT hZ (ow hw 38 rfl)) (mvT hZ (ow hw 37 rfl)) (by decide) (backOf (W := 0) (rmta l Z a0 hw [] bu em _ _ (0 : Int32) T70.heap n0 Z0 F_full_bu F_last_bu F_lastLength_bu E_em V_em (by decide)) hZ (ow hw 39 rfl) (ow hw 3 rfl) (by decide) (by decide)) q72a q72c (g := (mkF m 148 #[iv p0, iv p1, iv p2, iv p3, iv p4, iv bg, iv n1, rv fa, iv 3, rv se, rv bu, .unset, .unset, .unset] [(.ref bu)])) rfl (by rw [hml]; rfl) (Steps.refl _) (argsL := []) (rest := []) (lenOf pd_10 rfl) rfl (by show 2 * 0 + _ ≤ _; exact Nat.le_of_eq rfl) (hb hby at_148) (fun _ _ => ⟨rfl, e71, (by decide : 7 + 1 ≤ _), (by decide : 131096 + 3 ≤ _)⟩)
    dsimp only [Pt.U, Pt.locs, Pt.cells, Pt.slots] at X72 l72 y72 z72 st72 hQ72
    subst l72 y72 z72
    obtain ⟨r1, kr1, vr1, rfl, N72q, K72, g_r1, sz'_r1, V_r1, hv_r1⟩ := hQ72
    have N0 := Fr.app N0 N72q
    have E_em := E_em.keep K72
    have V_em := V_em.keep K72 nin0
    have V_de := V_de.keep K72 nin0
    have V_fa := V_fa.keep K72 nin0
    have E_se := E_se.keep K72
    have V_se := V_se.keep K72 nin0
    have E_bu := E_bu.keep K72
    have F_full_bu := F_full_bu.keep K72 nin0
    have F_last_bu := F_last_bu.keep K72 nin0
    have F_lastLength_bu := F_lastLength_bu.keep K72 nin0
    have F_length_bu := F_length_bu.keep K72 nin0
    have Z0 := Nat.le_trans Z0 K72.1
    have O0 := O0.keep K72 all0
    have ne_fa_r1 : fa ≠ r1 := Nat.ne_of_lt (Nat.lt_of_lt_of_le lt_fa sz'_r1)
    have ne_se_r1 : se ≠ r1 := Nat.ne_of_lt (Nat.lt_of_lt_of_le lt_se sz'_r1)
    have ne_bu_r1 : bu ≠ r1 := Nat.ne_of_lt (Nat.lt_of_lt_of_le lt_bu sz'_r1)
    refine oS (B := T72.setTop (mkF m 151 #[iv p0, iv p1, iv p2, iv p3, iv p4, iv bg, iv n1, rv fa, iv 3, rv se, rv bu, .unset, .unset, .unset] [(.ref r1)])) (fun t k => st72.trans k) ?_
    refine oS (B := T72.setTop (mkF m 153 #[iv p0, iv p1, iv p2, iv p3, iv p4, iv bg, iv n1, rv fa, iv 3, rv se, rv bu, rv r1, .unset, .unset] [])) (fun t k => XS.astore X72.here hx rfl (hb hby at_151) rfl rfl (l' := #[iv p0, iv p1, iv p2, iv p3, iv p4, iv bg, iv n1, rv fa, iv 3, rv se, rv bu, rv r1, .unset, .unset]) rfl k) ?_
    refine oS (B := T72.setTop (mkF m 155 #[iv p0, iv p1, iv p2, iv p3, iv p4, iv bg, iv n1, rv fa, iv 3, rv se, rv bu, rv r1, .unset, .unset] [(.ref r1)])) (fun t k => XS.aload X72.here hx rfl (hb hby at_153) rfl rfl k) ?_
    have Vo_73 := V_r1
    obtain ⟨cl_73, Ar_73, q_73, S_73, M_73, H_73, G_73⟩ := Vo_73
    refine oS (B := T72.setTop (mkF m 156 #[iv p0, iv p1, iv p2, iv p3, iv p4, iv bg, iv n1, rv fa, iv 3, rv se, rv bu, rv r1, .unset, .unset] [(.int 0)])) (fun t k => X72.arraylength hx Ar_73.1 (State.isArrayOf_alike hZ.alike Ar_73.2.1) (g := (mkF m 155 #[iv p0, iv p1, iv p2, iv p3, iv p4, iv bg, iv n1, rv fa, iv 3, rv se, rv bu, rv r1, .unset, .unset] [(.ref r1)])) rfl rfl (hb hby at_155) t (by rw [len_of S_73 M_73]; exact k)) ?_
    refine oS (B := T72.setTop (mkF m 161 #[iv p0, iv p1, iv p2, iv p3, iv p4, iv bg, iv n1, rv fa, iv 3, rv se, rv bu, rv r1, .unset, .unset] [])) (fun t k => XS.ifYes X72.here hx rfl (pc0 := 156) (pc' := 161) rfl (hb hby at_156) rfl ((if0 _ _).trans (teq rfl).1) (by decide) (by decide) k) ?_
    refine oS (B := T72.setTop (mkF m 163 #[iv p0, iv p1, iv p2, iv p3, iv p4, iv bg, iv n1, rv fa, iv 3, rv se, rv bu, rv r1, .unset, .unset] [(.ref bu)])) (fun t k => XS.aload X72.here hx rfl (hb hby at_161) rfl rfl k) ?_
    refine oS (B := T72.setTop (mkF m 165 #[iv p0, iv p1, iv p2, iv p3, iv p4, iv bg, iv n1, rv fa, iv 3, rv se, rv bu, rv r1, .unset, .unset] [(.ref se), (.ref bu)])) (fun t k => XS.aload X72.here hx rfl (hb hby at_163) rfl rfl k) ?_
    have lt_fa := V_fa.lt
    have lt_se := E_se.lt
    have lt_bu := E_bu.lt
    have lt_r1 := V_r1.lt
    obtain ⟨cq74, kq74, q74a, q74b, q74c⟩ := isOf hZ rfl E_bu
    obtain ⟨_, _, ⟨T74, L74, k74, n74⟩, -, X74, ⟨Lc74, hQ74, l74, y74, z74⟩, st74⟩ := X72.virtualBack hx (y := (⟨"com/example/loomwire/loomwire/transport/MessageBuffer", "append", "([B)V"⟩ : MethodName)) (z := (⟨"com/example/loomwire/loomwire/transport/MessageBuffer", "append", "([B)V"⟩ : MethodName)) hown (mvT hZ (ow hw 14 rfl)) (mvT hZ (ow hw 15 rfl)) (notFace_of_selects (args := #[]) (mvT hZ (ow hw 17 rfl))) (mvT hZ (ow hw 17 rfl)) (mvT hZ (ow hw 16 rfl)) (by decide) (backOf (W := 0) (rms_3 l Z a0 hw [] bu se em ke de kd _ _ T72.heap n0 Z0 E_bu g_bu F_full_bu F_last_bu F_lastLength_bu F_length_bu BB O0 (Ne.symm ne_se_bu) V_se) hZ (ow hw 18 rfl) (ow hw 3 rfl) (by decide) (by decide)) q74a q74c (g := (mkF m 165 #[iv p0, iv p1, iv p2, iv p3, iv p4, iv bg, iv n1, rv fa, iv 3, rv se, rv bu, rv r1, .unset, .unset] [(.ref se), (.ref bu)])) rfl (by rw [hml]; rfl) (Steps.refl _) (argsL := [(.ref se)]) (rest := []) (lenOf pd_8 rfl) rfl (by show 2 * 0 + _ ≤ _; exact Nat.le_of_eq rfl) (hb hby at_165) (fun _ _ => ⟨rfl, rfl, (by decide : 8 + 1 ≤ _), (by decide : 131099 + 4 ≤ _)⟩)
    dsimp only [Pt.U, Pt.locs, Pt.cells, Pt.slots] at X74 l74 y74 z74 st74 hQ74
    subst l74 y74 z74
    obtain ⟨la, kla, vla, rfl, N74q, K74, F_full_bu, F_last_bu, F_lastLength_bu, F_length_bu, g_la, sz'_la, E_la, V_la, hv_la⟩ := hQ74
    have N0 := Fr.app N0 N74q
    have E_em := E_em.keep K74
    have V_em := V_em.keep K74 (ninS ne_em_bu nin0)
    have V_de := V_de.keep K74 (ninS ne_de_bu nin0)
    have V_fa := V_fa.keep K74 (ninS ne_fa_bu nin0)
    have E_se := E_se.keep K74
    have V_se := V_se.keep K74 (ninS ne_se_bu nin0)
    have E_bu := E_bu.keep K74
    have V_r1 := V_r1.keep K74 (ninS (Ne.symm ne_bu_r1) nin0)
    have Z0 := Nat.le_trans Z0 K74.1
    have O0 := O0.keep K74 (allS g_bu all0)
    have ne_fa_la : fa ≠ la := Nat.ne_of_lt (Nat.lt_of_lt_of_le lt_fa sz'_la)
    have ne_se_la : se ≠ la := Nat.ne_of_lt (Nat.lt_of_lt_of_le lt_se sz'_la)
    have ne_bu_la : bu ≠ la := Nat.ne_of_lt (Nat.lt_of_lt_of_le lt_bu sz'_la)
    have ne_r1_la : r1 ≠ la := Nat.ne_of_lt (Nat.lt_of_lt_of_le lt_r1 sz'_la)
    refine oS (B := T74.setTop (mkF m 168 #[iv p0, iv p1, iv p2, iv p3, iv p4, iv bg, iv n1, rv fa, iv 3, rv se, rv bu, rv r1, .unset, .unset] [])) (fun t k => st74.trans k) ?_
    refine oS (B := T74.setTop (mkF m 170 #[iv p0, iv p1, iv p2, iv p3, iv p4, iv bg, iv n1, rv fa, iv 3, rv se, rv bu, rv r1, .unset, .unset] [(.ref bu)])) (fun t k => XS.aload X74.here hx rfl (hb hby at_168) rfl rfl k) ?_
    obtain ⟨cq75, kq75, q75a, q75b, q75c⟩ := isOf hZ rfl E_bu
    obtain ⟨_, _, ⟨T75, L75, k75, n75⟩, -, X75, ⟨Lc75, hQ75, l75, y75, z75⟩, st75⟩ := X74.virtualBack hx (y := (⟨"com/example/loomwire/loomwire/transport/MessageBuffer", "length", "()I"⟩ : MethodName)) (z := (⟨"com/example/loomwire/loomwire/transport/MessageBuffer", "length", "()I"⟩ : MethodName)) hown (mvT hZ (ow hw 30 rfl)) (mvT hZ (ow hw 31 rfl)) (notFace_of_selects (args := #[]) (mvT hZ (ow hw 33 rfl))) (mvT hZ (ow hw 33 rfl)) (mvT hZ (ow hw 32 rfl)) (by decide) (backOf (W := 0) (rm5 l Z a0 hw [] bu (3 : Int32) T74.heap n0 Z0 F_length_bu) hZ (ow hw 34 rfl) (ow hw 3 rfl) (by decide) (by decide)) q75a q75c (g := (mkF m 170 #[iv p0, iv p1, iv p2, iv p3, iv p4, iv bg, iv n1, rv fa, iv 3, rv se, rv bu, rv r1, .unset, .unset] [(.ref bu)])) rfl (by rw [hml]; rfl) (Steps.refl _) (argsL := []) (rest := []) (lenOf pd_9 rfl) rfl (by show 2 * 0 + _ ≤ _; exact Nat.le_of_eq rfl) (hb hby at_170) (fun _ _ => ⟨rfl, rfl, (by decide : 9 + 0 ≤ _), (by decide : 131103 + 0 ≤ _)⟩)
    dsimp only [Pt.U, Pt.locs, Pt.cells, Pt.slots] at X75 l75 y75 z75 st75 hQ75
    subst l75 y75 z75
    obtain ⟨rfl, N75q, e75⟩ := hQ75
    have N0 := Fr.app N0 N75q
    refine oS (B := T75.setTop (mkF m 173 #[iv p0, iv p1, iv p2, iv p3, iv p4, iv bg, iv n1, rv fa, iv 3, rv se, rv bu, rv r1, .unset, .unset] [(.int 3)])) (fun t k => st75.trans k) ?_
    refine oS (B := T75.setTop (mkF m 175 #[iv p0, iv p1, iv p2, iv p3, iv p4, iv bg, iv n1, rv fa, iv 3, rv se, rv bu, rv r1, .unset, .unset] [(.int 3), (.int 3)])) (fun t k => XS.iload X75.here hx rfl (hb hby at_173) rfl k) ?_
    refine oS (B := T75.setTop (mkF m 180 #[iv p0, iv p1, iv p2, iv p3, iv p4, iv bg, iv n1, rv fa, iv 3, rv se, rv bu, rv r1, .unset, .unset] [])) (fun t k => XS.icmpYes X75.here hx rfl (pc0 := 175) (pc' := 180) rfl (hb hby at_175) rfl (teq rfl).1 (by decide) (by decide) k) ?_
    refine oS (B := T75.setTop (mkF m 182 #[iv p0, iv p1, iv p2, iv p3, iv p4, iv bg, iv n1, rv fa, iv 3, rv se, rv bu, rv r1, .unset, .unset] [(.ref bu)])) (fun t k => XS.aload X75.here hx rfl (hb hby at_180) rfl rfl k) ?_
    have lt_fa := V_fa.lt
    have lt_se := E_se.lt
    have lt_bu := E_bu.lt
    have lt_r1 := V_r1.lt
    have lt_la := E_la.lt
    obtain ⟨cq76, kq76, q76a, q76b, q76c⟩ := isOf hZ e75 E_bu
    obtain ⟨_, _, ⟨T76, L76, k76, n76⟩, -, X76, ⟨Lc76, hQ76, l76, y76, z76⟩, st76⟩ := X75.virtualBack hx (y := (⟨"com/example/loomwire/loomwire/transport/MessageBuffer", "toArray", "()[B"⟩ : MethodName)) (z := (⟨"com/example/loomwire/loomwire/transport/MessageBuffer", "toArray", "()[B"⟩ : MethodName)) hown (mvT hZ (ow hw 35 rfl)) (mvT hZ (ow hw 36 rfl)) (notFace_of_selects (args := #[]) (mvT hZ (ow hw 38 rfl))) (mvT hZ (ow hw 38 rfl)) (mvT hZ (ow hw 37 rfl)) (by decide) (backOf (W := 0) (rmtt l Z a0 hw [] bu la _ _ T74.heap n0 Z0 F_full_bu F_last_bu F_lastLength_bu E_la V_la) hZ (ow hw 39 rfl) (ow hw 3 rfl) (by decide) (by decide)) q76a q76c (g := (mkF m 182 #[iv p0, iv p1, iv p2, iv p3, iv p4, iv bg, iv n1, rv fa, iv 3, rv se, rv bu, rv r1, .unset, .unset] [(.ref bu)])) rfl (by rw [hml]; rfl) (Steps.refl _) (argsL := []) (rest := []) (lenOf pd_10 rfl) rfl (by show 2 * 0 + _ ≤ _; exact Nat.le_of_eq rfl) (hb hby at_182) (fun _ _ => ⟨rfl, e75, (by decide : 9 + 1 ≤ _), (by decide : 131103 + 3 ≤ _)⟩)
    dsimp only [Pt.U, Pt.locs, Pt.cells, Pt.slots] at X76 l76 y76 z76 st76 hQ76
    subst l76 y76 z76
    obtain ⟨r2, kr2, vr2, rfl, N76q, K76, g_r2, sz'_r2, V_r2, hv_r2⟩ := hQ76
    have N0 := Fr.app N0 N76q
    have E_em := E_em.keep K76
    have V_em := V_em.keep K76 nin0
    have V_de := V_de.keep K76 nin0
    have V_fa := V_fa.keep K76 nin0
    have E_se := E_se.keep K76
    have V_se := V_se.keep K76 nin0
    have E_bu := E_bu.keep K76
    have V_r1 := V_r1.keep K76 nin0
    have F_full_bu := F_full_bu.keep K76 nin0
    have F_last_bu := F_last_bu.keep K76 nin0
    have F_lastLength_bu := F_lastLength_bu.keep K76 nin0
    have F_length_bu := F_length_bu.keep K76 nin0
    have E_la := E_la.keep K76
    have V_la := V_la.keep K76 nin0
    have Z0 := Nat.le_trans Z0 K76.1
    have O0 := O0.keep K76 all0
    have ne_fa_r2 : fa ≠ r2 := Nat.ne_of_lt (Nat.lt_of_lt_of_le lt_fa sz'_r2)
    have ne_se_r2 : se ≠ r2 := Nat.ne_of_lt (Nat.lt_of_lt_of_le lt_se sz'_r2)
    have ne_bu_r2 : bu ≠ r2 := Nat.ne_of_lt (Nat.lt_of_lt_of_le lt_bu sz'_r2)
    have ne_r1_r2 : r1 ≠ r2 := Nat.ne_of_lt (Nat.lt_of_lt_of_le lt_r1 sz'_r2)
    have ne_la_r2 : la ≠ r2 := Nat.ne_of_lt (Nat.lt_of_lt_of_le lt_la sz'_r2)
    refine oS (B := T76.setTop (mkF m 185 #[iv p0, iv p1, iv p2, iv p3, iv p4, iv bg, iv n1, rv fa, iv 3, rv se, rv bu, rv r1, .unset, .unset] [(.ref r2)])) (fun t k => st76.trans k) ?_
    refine oS (B := T76.setTop (mkF m 187 #[iv p0, iv p1, iv p2, iv p3, iv p4, iv bg, iv n1, rv fa, iv 3, rv se, rv bu, rv r1, rv r2, .unset] [])) (fun t k => XS.astore X76.here hx rfl (hb hby at_185) rfl rfl (l' := #[iv p0, iv p1, iv p2, iv p3, iv p4, iv bg, iv n1, rv fa, iv 3, rv se, rv bu, rv r1, rv r2, .unset]) rfl k) ?_
    refine oS (B := T76.setTop (mkF m 189 #[iv p0, iv p1, iv p2, iv p3, iv p4, iv bg, iv n1, rv fa, iv 3, rv se, rv bu, rv r1, rv r2, .unset] [(.ref r2)])) (fun t k => XS.aload X76.here hx rfl (hb hby at_187) rfl rfl k) ?_
    have Vo_77 := V_r2
    obtain ⟨cl_77, Ar_77, q_77, S_77, M_77, H_77, G_77⟩ := Vo_77
    refine oS (B := T76.setTop (mkF m 190 #[iv p0, iv p1, iv p2, iv p3, iv p4, iv bg, iv n1, rv fa, iv 3, rv se, rv bu, rv r1, rv r2, .unset] [(.int 3)])) (fun t k => X76.arraylength hx Ar_77.1 (State.isArrayOf_alike hZ.alike Ar_77.2.1) (g := (mkF m 189 #[iv p0, iv p1, iv p2, iv p3, iv p4, iv bg, iv n1, rv fa, iv 3, rv se, rv bu, rv r1, rv r2, .unset] [(.ref r2)])) rfl rfl (hb hby at_189) t (by rw [len_of S_77 M_77]; exact k)) ?_
    refine oS (B := T76.setTop (mkF m 192 #[iv p0, iv p1, iv p2, iv p3, iv p4, iv bg, iv n1, rv fa, iv 3, rv se, rv bu, rv r1, rv r2, .unset] [(.int 3), (.int 3)])) (fun t k => XS.iload X76.here hx rfl (hb hby at_190) rfl k) ?_
    refine oS (B := T76.setTop (mkF m 197 #[iv p0, iv p1, iv p2, iv p3, iv p4, iv bg, iv n1, rv fa, iv 3, rv se, rv bu, rv r1, rv r2, .unset] [])) (fun t k => XS.icmpYes X76.here hx rfl (pc0 := 192) (pc' := 197) rfl (hb hby at_192) rfl (teq rfl).1 (by decide) (by decide) k) ?_
    refine oS (B := T76.setTop (mkF m 198 #[iv p0, iv p1, iv p2, iv p3, iv p4, iv bg, iv n1, rv fa, iv 3, rv se, rv bu, rv r1, rv r2, .unset] [(.int 1)])) (fun t k => XS.iconst X76.here hx rfl (hb hby at_197) k) ?_
    refine oS (B := T76.setTop (mkF m 200 #[iv p0, iv p1, iv p2, iv p3, iv p4, iv bg, iv n1, rv fa, iv 3, rv se, rv bu, rv r1, rv r2, iv 1] [])) (fun t k => XS.istore X76.here hx rfl (hb hby at_198) rfl (l' := #[iv p0, iv p1, iv p2, iv p3, iv p4, iv bg, iv n1, rv fa, iv 3, rv se, rv bu, rv r1, rv r2, iv 1]) rfl k) ?_
    refine oS (B := T76.setTop (mkF m 202 #[iv p0, iv p1, iv p2, iv p3, iv p4, iv bg, iv n1, rv fa, iv 3, rv se, rv bu, rv r1, rv r2, iv 1] [(.int 3)])) (fun t k => XS.iload X76.here hx rfl (hb hby at_200) rfl k) ?_
    refine oS (B := T76.setTop (mkF m 205 #[iv p0, iv p1, iv p2, iv p3, iv p4, iv bg, iv n1, rv fa, iv 3, rv se, rv bu, rv r1, rv r2, iv 1] [])) (fun t k => XS.ifNo X76.here hx rfl (hb hby at_202) rfl ((if0 _ _).trans (tlt (by decide)).2.2.2) k) ?_
    refine oS (B := T76.setTop (mkF m 207 #[iv p0, iv p1, iv p2, iv p3, iv p4, iv bg, iv n1, rv fa, iv 3, rv se, rv bu, rv r1, rv r2, iv 1] [(.int 1)])) (fun t k => XS.iload X76.here hx rfl (hb hby at_205) rfl k) ?_
    refine oS (B := T76.setTop (mkF m 210 #[iv p0, iv p1, iv p2, iv p3, iv p4, iv bg, iv n1, rv fa, iv 3, rv se, rv bu, rv r1, rv r2, iv 1] [])) (fun t k => XS.ifNo X76.here hx rfl (hb hby at_207) rfl ((if0 _ _).trans (feq (by decide)).1) k) ?_
    refine oS (B := T76.setTop (mkF m 212 #[iv p0, iv p1, iv p2, iv p3, iv p4, iv bg, iv n1, rv fa, iv 3, rv se, rv bu, rv r1, rv r2, iv 1] [(.ref r2)])) (fun t k => XS.aload X76.here hx rfl (hb hby at_210) rfl rfl k) ?_
    refine oS (B := T76.setTop (mkF m 213 #[iv p0, iv p1, iv p2, iv p3, iv p4, iv bg, iv n1, rv fa, iv 3, rv se, rv bu, rv r1, rv r2, iv 1] [(.int 0), (.ref r2)])) (fun t k => XS.iconst X76.here hx rfl (hb hby at_212) k) ?_
    have Vo_78 := V_r2
    obtain ⟨cl_78, Ar_78, q_78, S_78, M_78, H_78, G_78⟩ := Vo_78
    refine oS (B := T76.setTop (mkF m 214 #[iv p0, iv p1, iv p2, iv p3, iv p4, iv bg, iv n1, rv fa, iv 3, rv se, rv bu, rv r1, rv r2, iv 1] [(.int (nar .byte (p3.toInt8.toInt32)))])) (fun t k => X76.baloadBytes hx (j := (0 : Int32)) (v := (.int (nar .byte (p3.toInt8.toInt32)))) Ar_78.1 (State.isArrayOf_alike hZ.alike Ar_78.2.1) Ar_78.2.2 (inb_of S_78 ⟨by decide, by decide⟩) (Has.at H_78 (inb_of S_78 ⟨by decide, by decide⟩) ((hv_r2 0 (by decide)).trans (hv_la 0 (by decide)))) (g := (mkF m 213 #[iv p0, iv p1, iv p2, iv p3, iv p4, iv bg, iv n1, rv fa, iv 3, rv se, rv bu, rv r1, rv r2, iv 1] [(.int 0), (.ref r2)])) rfl rfl (hb hby at_213) t k) ?_
    refine oS (B := T76.setTop (mkF m 216 #[iv p0, iv p1, iv p2, iv p3, iv p4, iv bg, iv n1, rv fa, iv 3, rv se, rv bu, rv r1, rv r2, iv 1] [(.ref se), (.int (nar .byte (p3.toInt8.toInt32)))])) (fun t k => XS.aload X76.here hx rfl (hb hby at_214) rfl rfl k) ?_
    refine oS (B := T76.setTop (mkF m 217 #[iv p0, iv p1, iv p2, iv p3, iv p4, iv bg, iv n1, rv fa, iv 3, rv se, rv bu, rv r1, rv r2, iv 1] [(.int 0), (.ref se), (.int (nar .byte (p3.toInt8.toInt32)))])) (fun t k => XS.iconst X76.here hx rfl (hb hby at_216) k) ?_
    have Vo_79 := V_se
    obtain ⟨cl_79, Ar_79, q_79, S_79, M_79, H_79, G_79⟩ := Vo_79
    refine oS (B := T76.setTop (mkF m 218 #[iv p0, iv p1, iv p2, iv p3, iv p4, iv bg, iv n1, rv fa, iv 3, rv se, rv bu, rv r1, rv r2, iv 1] [(.int (nar .byte (p3.toInt8.toInt32))), (.int (nar .byte (p3.toInt8.toInt32)))])) (fun t k => X76.baloadBytes hx (j := (0 : Int32)) (v := (.int (nar .byte (p3.toInt8.toInt32)))) Ar_79.1 (State.isArrayOf_alike hZ.alike Ar_79.2.1) Ar_79.2.2 (inb_of S_79 ⟨by decide, by decide⟩) (Has.at H_79 (inb_of S_79 ⟨by decide, by decide⟩) rfl) (g := (mkF m 217 #[iv p0, iv p1, iv p2, iv p3, iv p4, iv bg, iv n1, rv fa, iv 3, rv se, rv bu, rv r1, rv r2, iv 1] [(.int 0), (.ref se), (.int (nar .byte (p3.toInt8.toInt32)))])) rfl rfl (hb hby at_217) t k) ?_
    refine oS (B := T76.setTop (mkF m 221 #[iv p0, iv p1, iv p2, iv p3, iv p4, iv bg, iv n1, rv fa, iv 3, rv se, rv bu, rv r1, rv r2, iv 1] [])) (fun t k => XS.icmpNo X76.here hx rfl (hb hby at_218) rfl (teq rfl).2 k) ?_
    refine oS (B := T76.setTop (mkF m 222 #[iv p0, iv p1, iv p2, iv p3, iv p4, iv bg, iv n1, rv fa, iv 3, rv se, rv bu, rv r1, rv r2, iv 1] [(.int 1)])) (fun t k => XS.iconst X76.here hx rfl (hb hby at_221) k) ?_
    refine oS (B := T76.setTop (mkF m 226 #[iv p0, iv p1, iv p2, iv p3, iv p4, iv bg, iv n1, rv fa, iv 3, rv se, rv bu, rv r1, rv r2, iv 1] [(.int 1)])) (fun t k => XS.goto X76.here hx rfl (pc0 := 222) (pc' := 226) rfl (hb hby at_222) (by decide) (by decide) k) ?_
    refine oS (B := T76.setTop (mkF m 228 #[iv p0, iv p1, iv p2, iv p3, iv p4, iv bg, iv n1, rv fa, iv 3, rv se, rv bu, rv r1, rv r2, iv 1] [])) (fun t k => XS.istore X76.here hx rfl (hb hby at_226) rfl (l' := #[iv p0, iv p1, iv p2, iv p3, iv p4, iv bg, iv n1, rv fa, iv 3, rv se, rv bu, rv r1, rv r2, iv 1]) rfl k) ?_
    refine oS (B := T76.setTop (mkF m 230 #[iv p0, iv p1, iv p2, iv p3, iv p4, iv bg, iv n1, rv fa, iv 3, rv se, rv bu, rv r1, rv r2, iv 1] [(.int 3)])) (fun t k => XS.iload X76.here hx rfl (hb hby at_228) rfl k) ?_
    refine oS (B := T76.setTop (mkF m 231 #[iv p0, iv p1, iv p2, iv p3, iv p4, iv bg, iv n1, rv fa, iv 3, rv se, rv bu, rv r1, rv r2, iv 1] [(.int 1), (.int 3)])) (fun t k => XS.iconst X76.here hx rfl (hb hby at_230) k) ?_
    refine oS (B := T76.setTop (mkF m 234 #[iv p0, iv p1, iv p2, iv p3, iv p4, iv bg, iv n1, rv fa, iv 3, rv se, rv bu, rv r1, rv r2, iv 1] [])) (fun t k => XS.icmpNo X76.here hx rfl (hb hby at_231) rfl (tlt (by decide)).2.2.2 k) ?_
    refine oS (B := T76.setTop (mkF m 236 #[iv p0, iv p1, iv p2, iv p3, iv p4, iv bg, iv n1, rv fa, iv 3, rv se, rv bu, rv r1, rv r2, iv 1] [(.int 1)])) (fun t k => XS.iload X76.here hx rfl (hb hby at_234) rfl k) ?_
    refine oS (B := T76.setTop (mkF m 239 #[iv p0, iv p1, iv p2, iv p3, iv p4, iv bg, iv n1, rv fa, iv 3, rv se, rv bu, rv r1, rv r2, iv 1] [])) (fun t k => XS.ifNo X76.here hx rfl (hb hby at_236) rfl ((if0 _ _).trans (feq (by decide)).1) k) ?_
    refine oS (B := T76.setTop (mkF m 241 #[iv p0, iv p1, iv p2, iv p3, iv p4, iv bg, iv n1, rv fa, iv 3, rv se, rv bu, rv r1, rv r2, iv 1] [(.ref r2)])) (fun t k => XS.aload X76.here hx rfl (hb hby at_239) rfl rfl k) ?_
    refine oS (B := T76.setTop (mkF m 242 #[iv p0, iv p1, iv p2, iv p3, iv p4, iv bg, iv n1, rv fa, iv 3, rv se, rv bu, rv r1, rv r2, iv 1] [(.int 1), (.ref r2)])) (fun t k => XS.iconst X76.here hx rfl (hb hby at_241) k) ?_
    have Vo_80 := V_r2
    obtain ⟨cl_80, Ar_80, q_80, S_80, M_80, H_80, G_80⟩ := Vo_80
    refine oS (B := T76.setTop (mkF m 243 #[iv p0, iv p1, iv p2, iv p3, iv p4, iv bg, iv n1, rv fa, iv 3, rv se, rv bu, rv r1, rv r2, iv 1] [(.int (nar .byte (((p3.toUInt32 >>> ((8 : Int32) &&& 31).toUInt32).toInt32).toInt8.toInt32)))])) (fun t k => X76.baloadBytes hx (j := (1 : Int32)) (v := (.int (nar .byte (((p3.toUInt32 >>> ((8 : Int32) &&& 31).toUInt32).toInt32).toInt8.toInt32)))) Ar_80.1 (State.isArrayOf_alike hZ.alike Ar_80.2.1) Ar_80.2.2 (inb_of S_80 ⟨by decide, by decide⟩) (Has.at H_80 (inb_of S_80 ⟨by decide, by decide⟩) ((hv_r2 1 (by decide)).trans (hv_la 1 (by decide)))) (g := (mkF m 242 #[iv p0, iv p1, iv p2, iv p3, iv p4, iv bg, iv n1, rv fa, iv 3, rv se, rv bu, rv r1, rv r2, iv 1] [(.int 1), (.ref r2)])) rfl rfl (hb hby at_242) t k) ?_
    refine oS (B := T76.setTop (mkF m 245 #[iv p0, iv p1, iv p2, iv p3, iv p4, iv bg, iv n1, rv fa, iv 3, rv se, rv bu, rv r1, rv r2, iv 1] [(.ref se), (.int (nar .byte (((p3.toUInt32 >>> ((8 : Int32) &&& 31).toUInt32).toInt32).toInt8.toInt32)))])) (fun t k => XS.aload X76.here hx rfl (hb hby at_243) rfl rfl k) ?_
    refine oS (B := T76.setTop (mkF m 246 #[iv p0, iv p1, iv p2, iv p3, iv p4, iv bg, iv n1, rv fa, iv 3, rv se, rv bu, rv r1, rv r2, iv 1] [(.int 1), (.ref se), (.int (nar .byte (((p3.toUInt32 >>> ((8 : Int32) &&& 31).toUInt32).toInt32).toInt8.toInt32)))])) (fun t k => XS.iconst X76.here hx rfl (hb hby at_245) k) ?_
    have Vo_81 := V_se
    obtain ⟨cl_81, Ar_81, q_81, S_81, M_81, H_81, G_81⟩ := Vo_81
    refine oS (B := T76.setTop (mkF m 247 #[iv p0, iv p1, iv p2, iv p3, iv p4, iv bg, iv n1, rv fa, iv 3, rv se, rv bu, rv r1, rv r2, iv 1] [(.int (nar .byte (((p3.toUInt32 >>> ((8 : Int32) &&& 31).toUInt32).toInt32).toInt8.toInt32))), (.int (nar .byte (((p3.toUInt32 >>> ((8 : Int32) &&& 31).toUInt32).toInt32).toInt8.toInt32)))])) (fun t k => X76.baloadBytes hx (j := (1 : Int32)) (v := (.int (nar .byte (((p3.toUInt32 >>> ((8 : Int32) &&& 31).toUInt32).toInt32).toInt8.toInt32)))) Ar_81.1 (State.isArrayOf_alike hZ.alike Ar_81.2.1) Ar_81.2.2 (inb_of S_81 ⟨by decide, by decide⟩) (Has.at H_81 (inb_of S_81 ⟨by decide, by decide⟩) rfl) (g := (mkF m 246 #[iv p0, iv p1, iv p2, iv p3, iv p4, iv bg, iv n1, rv fa, iv 3, rv se, rv bu, rv r1, rv r2, iv 1] [(.int 1), (.ref se), (.int (nar .byte (((p3.toUInt32 >>> ((8 : Int32) &&& 31).toUInt32).toInt32).toInt8.toInt32)))])) rfl rfl (hb hby at_246) t k) ?_
    refine oS (B := T76.setTop (mkF m 250 #[iv p0, iv p1, iv p2, iv p3, iv p4, iv bg, iv n1, rv fa, iv 3, rv se, rv bu, rv r1, rv r2, iv 1] [])) (fun t k => XS.icmpNo X76.here hx rfl (hb hby at_247) rfl (teq rfl).2 k) ?_
    refine oS (B := T76.setTop (mkF m 251 #[iv p0, iv p1, iv p2, iv p3, iv p4, iv bg, iv n1, rv fa, iv 3, rv se, rv bu, rv r1, rv r2, iv 1] [(.int 1)])) (fun t k => XS.iconst X76.here hx rfl (hb hby at_250) k) ?_
    refine oS (B := T76.setTop (mkF m 255 #[iv p0, iv p1, iv p2, iv p3, iv p4, iv bg, iv n1, rv fa, iv 3, rv se, rv bu, rv r1, rv r2, iv 1] [(.int 1)])) (fun t k => XS.goto X76.here hx rfl (pc0 := 251) (pc' := 255) rfl (hb hby at_251) (by decide) (by decide) k) ?_
    refine oS (B := T76.setTop (mkF m 257 #[iv p0, iv p1, iv p2, iv p3, iv p4, iv bg, iv n1, rv fa, iv 3, rv se, rv bu, rv r1, rv r2, iv 1] [])) (fun t k => XS.istore X76.here hx rfl (hb hby at_255) rfl (l' := #[iv p0, iv p1, iv p2, iv p3, iv p4, iv bg, iv n1, rv fa, iv 3, rv se, rv bu, rv r1, rv r2, iv 1]) rfl k) ?_
    refine oS (B := T76.setTop (mkF m 259 #[iv p0, iv p1, iv p2, iv p3, iv p4, iv bg, iv n1, rv fa, iv 3, rv se, rv bu, rv r1, rv r2, iv 1] [(.int 3)])) (fun t k => XS.iload X76.here hx rfl (hb hby at_257) rfl k) ?_
    refine oS (B := T76.setTop (mkF m 260 #[iv p0, iv p1, iv p2, iv p3, iv p4, iv bg, iv n1, rv fa, iv 3, rv se, rv bu, rv r1, rv r2, iv 1] [(.int 2), (.int 3)])) (fun t k => XS.iconst X76.here hx rfl (hb hby at_259) k) ?_
    refine oS (B := T76.setTop (mkF m 263 #[iv p0, iv p1, iv p2, iv p3, iv p4, iv bg, iv n1, rv fa, iv 3, rv se, rv bu, rv r1, rv r2, iv 1] [])) (fun t k => XS.icmpNo X76.here hx rfl (hb hby at_260) rfl (tlt (by decide)).2.2.2 k) ?_
    refine oS (B := T76.setTop (mkF m 265 #[iv p0, iv p1, iv p2, iv p3, iv p4, iv bg, iv n1, rv fa, iv 3, rv se, rv bu, rv r1, rv r2, iv 1] [(.int 1)])) (fun t k => XS.iload X76.here hx rfl (hb hby at_263) rfl k) ?_
    refine oS (B := T76.setTop (mkF m 268 #[iv p0, iv p1, iv p2, iv p3, iv p4, iv bg, iv n1, rv fa, iv 3, rv se, rv bu, rv r1, rv r2, iv 1] [])) (fun t k => XS.ifNo X76.here hx rfl (hb hby at_265) rfl ((if0 _ _).trans (feq (by decide)).1) k) ?_
    refine oS (B := T76.setTop (mkF m 270 #[iv p0, iv p1, iv p2, iv p3, iv p4, iv bg, iv n1, rv fa, iv 3, rv se, rv bu, rv r1, rv r2, iv 1] [(.ref r2)])) (fun t k => XS.aload X76.here hx rfl (hb hby at_268) rfl rfl k) ?_
    refine oS (B := T76.setTop (mkF m 271 #[iv p0, iv p1, iv p2, iv p3, iv p4, iv bg, iv n1, rv fa, iv 3, rv se, rv bu, rv r1, rv r2, iv 1] [(.int 2), (.ref r2)])) (fun t k => XS.iconst X76.here hx rfl (hb hby at_270) k) ?_
    have Vo_82 := V_r2
    obtain ⟨cl_82, Ar_82, q_82, S_82, M_82, H_82, G_82⟩ := Vo_82
    refine oS (B := T76.setTop (mkF m 272 #[iv p0, iv p1, iv p2, iv p3, iv p4, iv bg, iv n1, rv fa, iv 3, rv se, rv bu, rv r1, rv r2, iv 1] [(.int (nar .byte (p4.toInt8.toInt32)))])) (fun t k => X76.baloadBytes hx (j := (2 : Int32)) (v := (.int (nar .byte (p4.toInt8.toInt32)))) Ar_82.1 (State.isArrayOf_alike hZ.alike Ar_82.2.1) Ar_82.2.2 (inb_of S_82 ⟨by decide, by decide⟩) (Has.at H_82 (inb_of S_82 ⟨by decide, by decide⟩) ((hv_r2 2 (by decide)).trans (hv_la 2 (by decide)))) (g := (mkF m 271 #[iv p0, iv p1, iv p2, iv p3, iv p4, iv bg, iv n1, rv fa, iv 3, rv se, rv bu, rv r1, rv r2, iv 1] [(.int 2), (.ref r2)])) rfl rfl (hb hby at_271) t k) ?_
    refine oS (B := T76.setTop (mkF m 274 #[iv p0, iv p1, iv p2, iv p3, iv p4, iv bg, iv n1, rv fa, iv 3, rv se, rv bu, rv r1, rv r2, iv 1] [(.ref se), (.int (nar .byte (p4.toInt8.toInt32)))])) (fun t k => XS.aload X76.here hx rfl (hb hby at_272) rfl rfl k) ?_
    refine oS (B := T76.setTop (mkF m 275 #[iv p0, iv p1, iv p2, iv p3, iv p4, iv bg, iv n1, rv fa, iv 3, rv se, rv bu, rv r1, rv r2, iv 1] [(.int 2), (.ref se), (.int (nar .byte (p4.toInt8.toInt32)))])) (fun t k => XS.iconst X76.here hx rfl (hb hby at_274) k) ?_
    have Vo_83 := V_se
    obtain ⟨cl_83, Ar_83, q_83, S_83, M_83, H_83, G_83⟩ := Vo_83
    refine oS (B := T76.setTop (mkF m 276 #[iv p0, iv p1, iv p2, iv p3, iv p4, iv bg, iv n1, rv fa, iv 3, rv se, rv bu, rv r1, rv r2, iv 1] [(.int (nar .byte (p4.toInt8.toInt32))), (.int (nar .byte (p4.toInt8.toInt32)))])) (fun t k => X76.baloadBytes hx (j := (2 : Int32)) (v := (.int (nar .byte (p4.toInt8.toInt32)))) Ar_83.1 (State.isArrayOf_alike hZ.alike Ar_83.2.1) Ar_83.2.2 (inb_of S_83 ⟨by decide, by decide⟩) (Has.at H_83 (inb_of S_83 ⟨by decide, by decide⟩) rfl) (g := (mkF m 275 #[iv p0, iv p1, iv p2, iv p3, iv p4, iv bg, iv n1, rv fa, iv 3, rv se, rv bu, rv r1, rv r2, iv 1] [(.int 2), (.ref se), (.int (nar .byte (p4.toInt8.toInt32)))])) rfl rfl (hb hby at_275) t k) ?_
    refine oS (B := T76.setTop (mkF m 279 #[iv p0, iv p1, iv p2, iv p3, iv p4, iv bg, iv n1, rv fa, iv 3, rv se, rv bu, rv r1, rv r2, iv 1] [])) (fun t k => XS.icmpNo X76.here hx rfl (hb hby at_276) rfl (teq rfl).2 k) ?_
    refine oS (B := T76.setTop (mkF m 280 #[iv p0, iv p1, iv p2, iv p3, iv p4, iv bg, iv n1, rv fa, iv 3, rv se, rv bu, rv r1, rv r2, iv 1] [(.int 1)])) (fun t k => XS.iconst X76.here hx rfl (hb hby at_279) k) ?_
    refine oS (B := T76.setTop (mkF m 284 #[iv p0, iv p1, iv p2, iv p3, iv p4, iv bg, iv n1, rv fa, iv 3, rv se, rv bu, rv r1, rv r2, iv 1] [(.int 1)])) (fun t k => XS.goto X76.here hx rfl (pc0 := 280) (pc' := 284) rfl (hb hby at_280) (by decide) (by decide) k) ?_
    refine oS (B := T76.setTop (mkF m 286 #[iv p0, iv p1, iv p2, iv p3, iv p4, iv bg, iv n1, rv fa, iv 3, rv se, rv bu, rv r1, rv r2, iv 1] [])) (fun t k => XS.istore X76.here hx rfl (hb hby at_284) rfl (l' := #[iv p0, iv p1, iv p2, iv p3, iv p4, iv bg, iv n1, rv fa, iv 3, rv se, rv bu, rv r1, rv r2, iv 1]) rfl k) ?_
    refine oS (B := T76.setTop (mkF m 288 #[iv p0, iv p1, iv p2, iv p3, iv p4, iv bg, iv n1, rv fa, iv 3, rv se, rv bu, rv r1, rv r2, iv 1] [(.int 1)])) (fun t k => XS.iload X76.here hx rfl (hb hby at_286) rfl k) ?_
    exact own_retN X76 hx hlk (t := .boolean) Bd.returns (by simp) (hb hby at_288) (by decide) (by decide) (by exact ⟨rfl, N0⟩)
set_option maxRecDepth 65536 in
set_option maxHeartbeats 40000000 in
theorem comes_1 {Post : Tables → Env → Array Value → State → Outcome → State → Prop} (hpost : ∀ tb e args s v u, (limb_1_1.after args s (.returned v) u = true ∧ limb_1_2.after args s (.returned v) u = true ∧ True) → FrameEnd s (.returned v) u (Jvm.fieldLocs frame_1_writes args s ++ Jvm.arrayLocs frame_1_arrays args s ++ Jvm.staticLocs frame_1_statics s) 32 157376 → Post tb e args s (.returned v) u) :
    ArmFor flags0 classFile x code maxLocals ret World_1 tables_1 room_1 Calls_1 rest_1 Pre_1 Post := by
  intro l hfl _ _ p e ha hc hk s m args below hf hA hF happ hP
  obtain ⟨hcalls, hrest, hpre⟩ := hP
  obtain ⟨-, -, -, hnamed, -, -, -, hat⟩ := (Spec.applies_iff hf).mp happ
  obtain ⟨hg, hn⟩ := and_e (Cond.before_iff.mp (show (Jvm.Cond.and given_1 narrow_1).before args s = true from hpre))
  obtain ⟨g0, k0⟩ := and_e hg
  obtain ⟨g1, k1⟩ := and_e k0
  obtain ⟨g2, k2⟩ := and_e k1
  obtain ⟨g3, k3⟩ := and_e k2
  obtain ⟨g4, k4⟩ := and_e k3
  obtain ⟨w0, w1, w2, w3, w4, rfl⟩ : ∃ w0 w1 w2 w3 w4 : Value, args = #[w0, w1, w2, w3, w4] := by
    have hs : args.size = 5 := by simpa [Cond.value, given_1] using g0
    obtain ⟨L⟩ := args
    match L, hs with
    | [w0, w1, w2, w3, w4], _ => exact ⟨w0, w1, w2, w3, w4, rfl⟩
  have hw := fun d (hd : d ∈ tables_1) => atoms_spec (ws := Jvm.Cond.code x code maxLocals ret :: tables_1) hat d (List.mem_cons_of_mem _ hd)
  have hfit : Fit s := fun {y c} hc i hi => by
    obtain ⟨ha, rfl⟩ := Array.getElem?_eq_some_iff.mp hc
    have q := List.all_eq_true.mp ((Array.all_eq_true_iff_forall_mem.mp hF) _ (Array.getElem_mem ha)) i (List.mem_range.mpr hi)
    simpa [Array.getElem?_eq_getElem hi] using q
  obtain ⟨i0, ei0⟩ := is_v g1
  obtain rfl : w0 = (.int i0) := Option.some.inj ei0
  obtain ⟨i1, ei1⟩ := is_v g2
  obtain rfl : w1 = (.int i1) := Option.some.inj ei1
  obtain ⟨i2, ei2⟩ := is_v g3
  obtain rfl : w2 = (.int i2) := Option.some.inj ei2
  obtain ⟨i3, ei3⟩ := is_v g4
  obtain rfl : w3 = (.int i3) := Option.some.inj ei3
  obtain ⟨i4, ei4⟩ := is_v k4
  obtain rfl : w4 = (.int i4) := Option.some.inj ei4
  obtain ⟨hsets, hown0⟩ := atoms_of _ (rest_1_c_eq ▸ (show rest_1_c.before _ s = true from hrest))
  obtain ⟨a1, a2⟩ := and_e hn
  obtain ⟨a2, a3⟩ := and_e a2
  obtain ⟨em, ev1⟩ := arr_v a1
  obtain ⟨ke, V1⟩ := own_zero_arr (dv := .int 0) hfit ev1 a1 (Cond.before_iff.mpr a3)
  have b1 := Cond.before_iff.mp (hsets _ (List.mem_of_getElem? (i := 6) rfl))
  obtain ⟨de, ev2⟩ := arr_v b1
  obtain ⟨kd, V2⟩ := own_zero_arr (dv := .null) hfit ev2 b1 (hsets _ (List.mem_of_getElem? (i := 8) rfl))
  have BB : own_Base s em ke de kd := ⟨Sta.start ev1 (Or.inr ⟨hw _ (List.mem_of_getElem? (i := 3) rfl), hw _ (List.mem_of_getElem? (i := 11) rfl)⟩), Exa.start ev1 a2, V1, Sta.start ev2 (Or.inr ⟨hw _ (List.mem_of_getElem? (i := 79) rfl), hsets _ (List.mem_of_getElem? (i := 2) rfl)⟩), V2⟩
  obtain ⟨n, o, h1, h2, h3, _, L, rfl, ⟨rfl, N⟩, hq⟩ := rm0 l s _ hw tables_1 i0 i1 i2 i3 i4 em ke de kd s.heap s.heap.size (Nat.le_refl _) BB (Old.start s) p e ha hc hk s m _ below hf ((Spec.applies_iff_loose hf).mp happ).1 ⟨rfl, State.Warmed39.refl s, rfl⟩ trivial
  refine ⟨n, _, h1, h2, h3, hpost _ _ _ _ _ _ ⟨Cond.after_iff.mpr rfl, Cond.after_iff.mpr (eq_i res_at (Term.int_eval (1)) rfl), trivial⟩ ⟨hq.1, hq.2.1, (hq.2.2.sift fun y hy => Or.inr (N y hy)).mono (by decide) (by decide)⟩⟩
theorem main_1_1 : Claimed_1_1 := comes_1 fun _ _ _ _ _ _ h hF => ⟨h.1, hF⟩
theorem main_1_2 : Claimed_1_2 := comes_1 fun _ _ _ _ _ _ h hF => ⟨h.2.1, hF⟩
end Jvm.Pilot.@@N@@
namespace Jvm.Pilot.@@N@@
open Jvm Jvm.ClassFile Sem Op Lib Jvm.Free Jvm.Stand Jvm.Pilot.@@N@@.Jvm.D
/-! MADE BY PROGRAM (witnessworld.py) out of the Statement's table words and the real class files: 26 classes; the members and pool entries that the words name. The judged class is class 1, her method 1. -/
namespace start1
open Jvm.ClassFile
def u (s : String) : CpInfo := .utf8 (stringToUtf16 s)
/-- a pool by its gaps: so many unusable entries, then the entry; so many at the end -/
def gap : Nat → List CpInfo → List CpInfo
  | 0, r => r
  | n + 1, r => .unusable :: gap n r
def poolList (es : List (Nat × CpInfo)) (last : Nat) : List CpInfo := es.foldr (fun e r => gap e.1 (e.2 :: r)) (gap last [])
def pool (es : List (Nat × CpInfo)) (last : Nat) : Array CpInfo := ⟨poolList es last⟩
def fileOf (pool : Array CpInfo) (this : Nat) (attrs : Array Attribute := #[]) (ms : Array MethodInfo := #[]) (fl : Nat := 33) (sup : Nat := 0) (ifs : Array Nat := #[]) (fds : Array FieldInfo := #[]) : ClassFile where
  minorVersion := 0
  majorVersion := 65
  constantPool := pool
  accessFlags := fl
  thisClass := this
  superClass := sup
  interfaces := ifs
  fields := fds
  methods := ms
  attributes := attrs
def plain (name : String) (sup : Option ClassId) : Class where
  name := name
  kind := .ordinary
  loader := none
  accessFlags := 33
  super := sup
  interfaces := #[]
  cf := none
  fields := #[]
  methods := #[]
  instanceTypes := #[]
  staticTypes := #[]
  resolved := #[]
  callSites := []
  init := .initialized
  statics := none
  mirror := none

def pool0 : Array CpInfo := pool [(5, u "<init>"), (0, u "()V"), (1, .class_ 10), (1, u "java/lang/Object"), (85, u "clone"), (0, u "()Ljava/lang/Object;")] 26

def k0c0 : Code := { maxStack := 0, maxLocals := 1, code := object_method_1_code, exceptionTable := #[], attributes := #[] }
def k0m0 : Method := { name := "<init>", desc := "()V", sig := { parameters := [], returnType := none }, accessFlags := 1, code := some k0c0 }
def k0m1 : Method := { name := "clone", desc := "()Ljava/lang/Object;", sig := { parameters := [], returnType := some (.object "java/lang/Object") }, accessFlags := 260, code := none }
/-- java/lang/Object -/
def k0 : Class := { plain "java/lang/Object" none with
  accessFlags := 33
  interfaces := #[]
  cf := some (fileOf pool0 8 #[] #[{ accessFlags := 1, nameIndex := 5, descriptorIndex := 6, attributes := #[] }, { accessFlags := 260, nameIndex := 96, descriptorIndex := 97, attributes := #[] }] 33 0 #[] #[])
  fields := #[]
  methods := #[k0m0, k0m1]
  instanceTypes := #[]
  staticTypes := #[]
  resolved := Array.replicate 124 none
  statics := none }

def pool1 : Array CpInfo := pool [(2, .class_ 4), (0, .nameAndType 5 6), (0, u "java/lang/Object"), (0, u "<init>"), (0, u "()V"), (0, .class_ 8), (0, u "com/example/loomwire/loomwire/transport/MessageBuffer"), (0, .integer 65537), (0, .methodref 7 3), (0, .methodref 7 12), (0, .nameAndType 13 14), (0, u "append"), (0, u "([B)V"), (0, .methodref 7 16), (0, .nameAndType 17 6), (0, u "clear"), (0, .methodref 7 19), (0, .nameAndType 20 21), (0, u "length"), (0, u "()I"), (0, .methodref 7 23), (0, .nameAndType 24 25), (0, u "toArray"), (0, u "()[B"), (0, .class_ 27), (0, u "com/example/loomwire/loomwire/transport/MessageBufferClearPinLaw"), (2, u "law"), (0, u "(IIIII)Z")] 5

def k1m0 : Method := { name := "<init>", desc := "()V", sig := { parameters := [], returnType := none }, accessFlags := 1, code := none }
def k1c1 : Code := { maxStack := 4, maxLocals := 14, code := code, exceptionTable := #[], attributes := #[] }
def k1m1 : Method := { name := "law", desc := "(IIIII)Z", sig := { parameters := [.int, .int, .int, .int, .int], returnType := some .boolean }, accessFlags := 9, code := some k1c1 }
/-- com/example/loomwire/loomwire/transport/MessageBufferClearPinLaw -/
def k1 : Class := { plain "com/example/loomwire/loomwire/transport/MessageBufferClearPinLaw" (some 0) with
  accessFlags := 49
  interfaces := #[]
  cf := some (fileOf pool1 26 #[] #[{ accessFlags := 1, nameIndex := 5, descriptorIndex := 6, attributes := #[] }, { accessFlags := 9, nameIndex := 30, descriptorIndex := 31, attributes := #[] }] 49 2 #[] #[])
  fields := #[]
  methods := #[k1m0, k1m1]
  instanceTypes := #[]
  staticTypes := #[]
  resolved := Array.replicate 37 none
  statics := none }

def pool2 : Array CpInfo := pool [(1, .methodref 2 3), (0, .class_ 4), (0, .nameAndType 5 6), (0, u "java/lang/Object"), (0, u "<init>"), (0, u "()V"), (0, .fieldref 8 9), (0, .class_ 10), (0, .nameAndType 11 12), (0, u "com/example/loomwire/loomwire/transport/MessageBuffer"), (0, u "EMPTY"), (0, u "[B"), (0, .fieldref 8 14), (0, .nameAndType 15 12), (0, u "last"), (2, .methodref 8 19), (0, .nameAndType 20 21), (0, u "chunkCapacity"), (0, u "(I)I"), (0, .fieldref 8 23), (0, .nameAndType 24 25), (0, u "length"), (0, u "I"), (0, .fieldref 8 27), (0, .nameAndType 28 25), (0, u "lastLength"), (0, .integer 65536), (0, .fieldref 8 31), (0, .nameAndType 32 33), (0, u "full"), (0, u "Ljava/util/List;"), (0, .class_ 35), (0, u "java/util/ArrayList"), (0, .methodref 34 3), (0, .interfaceMethodref 38 39), (0, .class_ 40), (0, .nameAndType 41 42), (0, u "java/util/List"), (0, u "add"), (0, u "(Ljava/lang/Object;)Z"), (0, .methodref 44 45), (0, .class_ 46), (0, .nameAndType 47 48), (0, u "java/lang/Math"), (0, u "min"), (0, u "(II)I"), (0, .methodref 50 51), (0, .class_ 52), (0, .nameAndType 53 54), (0, u "java/util/Arrays"), (0, u "copyOf"), (0, u "([BI)[B"), (0, .methodref 56 57), (0, .class_ 58), (0, .nameAndType 59 60), (0, u "java/lang/System"), (0, u "arraycopy"), (0, u "(Ljava/lang/Object;ILjava/lang/Object;II)V"), (15, .methodref 77 78), (0, .class_ 79), (0, .nameAndType 80 21), (0, u "java/lang/Integer"), (0, u "highestOneBit"), (0, u "CHUNK_BYTES"), (8, u "()I"), (0, u "append"), (0, u "([B)V"), (0, u "clear"), (0, u "toArray"), (0, u "()[B")] 3

def k2c0 : Code := { maxStack := 2, maxLocals := 1, code := prog_102_method_1_code, exceptionTable := #[], attributes := #[] }
def k2m0 : Method := { name := "<init>", desc := "()V", sig := { parameters := [], returnType := none }, accessFlags := 0, code := some k2c0 }
def k2c1 : Code := { maxStack := 1, maxLocals := 1, code := prog_102_method_3_code, exceptionTable := #[], attributes := #[] }
def k2m1 : Method := { name := "length", desc := "()I", sig := { parameters := [], returnType := some .int }, accessFlags := 0, code := some k2c1 }
def k2c2 : Code := { maxStack := 5, maxLocals := 4, code := prog_102_method_4_code, exceptionTable := #[], attributes := #[] }
def k2m2 : Method := { name := "append", desc := "([B)V", sig := { parameters := [(.array .byte)], returnType := none }, accessFlags := 0, code := some k2c2 }
def k2c3 : Code := { maxStack := 2, maxLocals := 1, code := prog_102_method_5_code, exceptionTable := #[], attributes := #[] }
def k2m3 : Method := { name := "clear", desc := "()V", sig := { parameters := [], returnType := none }, accessFlags := 0, code := some k2c3 }
def k2c4 : Code := { maxStack := 5, maxLocals := 5, code := prog_102_method_6_code, exceptionTable := #[], attributes := #[] }
def k2m4 : Method := { name := "toArray", desc := "()[B", sig := { parameters := [], returnType := some (.array .byte) }, accessFlags := 0, code := some k2c4 }
def k2c5 : Code := { maxStack := 2, maxLocals := 1, code := prog_102_method_7_code, exceptionTable := #[], attributes := #[] }
def k2m5 : Method := { name := "chunkCapacity", desc := "(I)I", sig := { parameters := [.int], returnType := some .int }, accessFlags := 10, code := some k2c5 }
/-- com/example/loomwire/loomwire/transport/MessageBuffer -/
def k2 : Class := { plain "com/example/loomwire/loomwire/transport/MessageBuffer" (some 0) with
  accessFlags := 48
  interfaces := #[]
  cf := some (fileOf pool2 8 #[] #[{ accessFlags := 0, nameIndex := 5, descriptorIndex := 6, attributes := #[] }, { accessFlags := 0, nameIndex := 24, descriptorIndex := 90, attributes := #[] }, { accessFlags := 0, nameIndex := 91, descriptorIndex := 92, attributes := #[] }, { accessFlags := 0, nameIndex := 93, descriptorIndex := 6, attributes := #[] }, { accessFlags := 0, nameIndex := 94, descriptorIndex := 95, attributes := #[] }, { accessFlags := 10, nameIndex := 20, descriptorIndex := 21, attributes := #[] }] 48 2 #[] #[{ accessFlags := 24, nameIndex := 81, descriptorIndex := 25, attributes := #[] }, { accessFlags := 26, nameIndex := 11, descriptorIndex := 12, attributes := #[] }, { accessFlags := 2, nameIndex := 32, descriptorIndex := 33, attributes := #[] }, { accessFlags := 2, nameIndex := 15, descriptorIndex := 12, attributes := #[] }, { accessFlags := 2, nameIndex := 28, descriptorIndex := 25, attributes := #[] }, { accessFlags := 2, nameIndex := 24, descriptorIndex := 25, attributes := #[] }])
  fields := #[{ name := "CHUNK_BYTES", type := .int, accessFlags := 24, slot := 0, constantValue := 0 }, { name := "EMPTY", type := (.array .byte), accessFlags := 26, slot := 1, constantValue := 0 }, { name := "full", type := (.object "java/util/List"), accessFlags := 2, slot := 0, constantValue := 0 }, { name := "last", type := (.array .byte), accessFlags := 2, slot := 1, constantValue := 0 }, { name := "lastLength", type := .int, accessFlags := 2, slot := 2, constantValue := 0 }, { name := "length", type := .int, accessFlags := 2, slot := 3, constantValue := 0 }]
  methods := #[k2m0, k2m1, k2m2, k2m3, k2m4, k2m5]
  instanceTypes := #[(.object "java/util/List"), (.array .byte), .int, .int]
  staticTypes := #[.int, (.array .byte)]
  resolved := Array.replicate 99 none
  statics := some 0 }

def pool3 : Array CpInfo := pool [(2, .class_ 4), (1, u "java/lang/Object"), (0, u "<init>"), (0, u "()V"), (7, .class_ 16), (1, u "java/util/Arrays"), (57, .class_ 76), (1, u "java/util/Arrays$NaturalOrder"), (32, u "()Ljava/lang/Object;"), (3, .class_ 115), (1, u "java/util/Arrays$LegacyMergeSort"), (1, u "Z"), (10, .nameAndType 129 109), (0, u "clone"), (20, .methodref 151 152), (0, .class_ 153), (0, .nameAndType 154 155), (0, u "java/lang/System"), (0, u "arraycopy"), (0, u "(Ljava/lang/Object;ILjava/lang/Object;II)V"), (146, u "copyOf"), (1, .methodref 305 306), (0, .class_ 307), (0, .nameAndType 308 309), (0, u "java/lang/Math"), (0, u "min"), (0, u "(II)I"), (0, .methodref 311 128), (0, .class_ 312), (0, u "[B"), (62, .class_ 376), (0, u "java/util/Arrays$ArrayList"), (68, u "$assertionsDisabled"), (269, u "MIN_ARRAY_SORT_GRAN"), (0, u "I"), (2, u "INSERTIONSORT_THRESHOLD"), (149, u "([BI)[B"), (105, .class_ 976), (0, u "java/util/Arrays$ArrayItr")] 52

def k3m0 : Method := { name := "<init>", desc := "()V", sig := { parameters := [], returnType := none }, accessFlags := 2, code := none }
def k3c1 : Code := { maxStack := 6, maxLocals := 3, code := jdk_65_method_121_code, exceptionTable := #[], attributes := #[] }
def k3m1 : Method := { name := "copyOf", desc := "([BI)[B", sig := { parameters := [(.array .byte), .int], returnType := some (.array .byte) }, accessFlags := 9, code := some k3c1 }
/-- java/util/Arrays -/
def k3 : Class := { plain "java/util/Arrays" (some 0) with
  accessFlags := 49
  interfaces := #[]
  cf := some (fileOf pool3 14 #[.nestMembers #[975, 375, 113, 74]] #[{ accessFlags := 2, nameIndex := 5, descriptorIndex := 6, attributes := #[] }, { accessFlags := 9, nameIndex := 302, descriptorIndex := 869, attributes := #[] }] 49 2 #[] #[{ accessFlags := 26, nameIndex := 715, descriptorIndex := 716, attributes := #[] }, { accessFlags := 26, nameIndex := 719, descriptorIndex := 716, attributes := #[] }, { accessFlags := 4120, nameIndex := 445, descriptorIndex := 117, attributes := #[] }])
  fields := #[{ name := "MIN_ARRAY_SORT_GRAN", type := .int, accessFlags := 26, slot := 0, constantValue := 0 }, { name := "INSERTIONSORT_THRESHOLD", type := .int, accessFlags := 26, slot := 1, constantValue := 0 }, { name := "$assertionsDisabled", type := .boolean, accessFlags := 4120, slot := 2, constantValue := 0 }]
  methods := #[k3m0, k3m1]
  instanceTypes := #[]
  staticTypes := #[.int, .int, .boolean]
  resolved := Array.replicate 1029 none
  statics := none }

def pool4 : Array CpInfo := pool [(1, .class_ 2), (0, u "java/lang/Cloneable"), (0, .class_ 4), (0, u "java/lang/Object")] 2

/-- java/lang/Cloneable -/
def k4 : Class := { plain "java/lang/Cloneable" (some 0) with
  accessFlags := 1537
  interfaces := #[]
  cf := some (fileOf pool4 1 #[] #[] 1537 3 #[] #[])
  fields := #[]
  methods := #[]
  instanceTypes := #[]
  staticTypes := #[]
  resolved := Array.replicate 7 none
  statics := none }

def pool5 : Array CpInfo := pool [(1, .class_ 2), (0, u "java/lang/Math"), (1, .class_ 6), (1, u "java/lang/Object"), (0, u "<init>"), (0, u "()V"), (89, .class_ 100), (1, u "java/lang/Math$RandomNumberGeneratorHolder"), (71, u "negativeZeroFloatBits"), (0, u "J"), (2, u "negativeZeroDoubleBits"), (21, u "max"), (2, u "min"), (43, u "$assertionsDisabled"), (0, u "Z"), (88, u "(II)I"), (2, u "twoToTheDoubleScaleDown"), (0, u "D"), (4, u "twoToTheDoubleScaleUp"), (9, u "E"), (3, u "PI"), (2, u "TAU"), (2, u "DEGREES_TO_RADIANS"), (0, u "RADIANS_TO_DEGREES")] 94

def k5m0 : Method := { name := "<init>", desc := "()V", sig := { parameters := [], returnType := none }, accessFlags := 2, code := none }
def k5c1 : Code := { maxStack := 2, maxLocals := 2, code := jdk_29_method_65_code, exceptionTable := #[], attributes := #[] }
def k5m1 : Method := { name := "max", desc := "(II)I", sig := { parameters := [.int, .int], returnType := some .int }, accessFlags := 9, code := some k5c1 }
def k5c2 : Code := { maxStack := 2, maxLocals := 2, code := jdk_29_method_69_code, exceptionTable := #[], attributes := #[] }
def k5m2 : Method := { name := "min", desc := "(II)I", sig := { parameters := [.int, .int], returnType := some .int }, accessFlags := 9, code := some k5c2 }
/-- java/lang/Math -/
def k5 : Class := { plain "java/lang/Math" (some 0) with
  accessFlags := 49
  interfaces := #[]
  cf := some (fileOf pool5 1 #[.nestMembers #[98]] #[{ accessFlags := 2, nameIndex := 7, descriptorIndex := 8, attributes := #[] }, { accessFlags := 9, nameIndex := 198, descriptorIndex := 335, attributes := #[] }, { accessFlags := 9, nameIndex := 201, descriptorIndex := 335, attributes := #[] }] 49 4 #[] #[{ accessFlags := 25, nameIndex := 354, descriptorIndex := 339, attributes := #[] }, { accessFlags := 25, nameIndex := 358, descriptorIndex := 339, attributes := #[] }, { accessFlags := 25, nameIndex := 361, descriptorIndex := 339, attributes := #[] }, { accessFlags := 26, nameIndex := 364, descriptorIndex := 339, attributes := #[] }, { accessFlags := 26, nameIndex := 365, descriptorIndex := 339, attributes := #[] }, { accessFlags := 26, nameIndex := 172, descriptorIndex := 173, attributes := #[] }, { accessFlags := 26, nameIndex := 176, descriptorIndex := 173, attributes := #[] }, { accessFlags := 8, nameIndex := 344, descriptorIndex := 339, attributes := #[] }, { accessFlags := 8, nameIndex := 338, descriptorIndex := 339, attributes := #[] }, { accessFlags := 4120, nameIndex := 245, descriptorIndex := 246, attributes := #[] }])
  fields := #[{ name := "E", type := .double, accessFlags := 25, slot := 0, constantValue := 0 }, { name := "PI", type := .double, accessFlags := 25, slot := 1, constantValue := 0 }, { name := "TAU", type := .double, accessFlags := 25, slot := 2, constantValue := 0 }, { name := "DEGREES_TO_RADIANS", type := .double, accessFlags := 26, slot := 3, constantValue := 0 }, { name := "RADIANS_TO_DEGREES", type := .double, accessFlags := 26, slot := 4, constantValue := 0 }, { name := "negativeZeroFloatBits", type := .long, accessFlags := 26, slot := 5, constantValue := 0 }, { name := "negativeZeroDoubleBits", type := .long, accessFlags := 26, slot := 6, constantValue := 0 }, { name := "twoToTheDoubleScaleUp", type := .double, accessFlags := 8, slot := 7, constantValue := 0 }, { name := "twoToTheDoubleScaleDown", type := .double, accessFlags := 8, slot := 8, constantValue := 0 }, { name := "$assertionsDisabled", type := .boolean, accessFlags := 4120, slot := 9, constantValue := 0 }]
  methods := #[k5m0, k5m1, k5m2]
  instanceTypes := #[]
  staticTypes := #[.double, .double, .double, .double, .double, .long, .long, .double, .double, .boolean]
  resolved := Array.replicate 460 none
  statics := none }

def pool6 : Array CpInfo := pool [(1, .class_ 2), (0, u "java/io/Serializable"), (0, .class_ 4), (0, u "java/lang/Object")] 2

/-- java/io/Serializable -/
def k6 : Class := { plain "java/io/Serializable" (some 0) with
  accessFlags := 1537
  interfaces := #[]
  cf := some (fileOf pool6 1 #[] #[] 1537 3 #[] #[])
  fields := #[]
  methods := #[]
  instanceTypes := #[]
  staticTypes := #[]
  resolved := Array.replicate 7 none
  statics := none }

def pool7 : Array CpInfo := pool [(2, .class_ 4), (1, u "java/lang/Object"), (0, u "<init>"), (0, u "()V"), (1, .class_ 10), (1, u "java/lang/Number"), (2, .class_ 14), (0, u "java/io/Serializable"), (0, u "serialVersionUID"), (0, u "J")] 20

def k7m0 : Method := { name := "<init>", desc := "()V", sig := { parameters := [], returnType := none }, accessFlags := 1, code := none }
/-- java/lang/Number -/
def k7 : Class := { plain "java/lang/Number" (some 0) with
  accessFlags := 1057
  interfaces := #[6]
  cf := some (fileOf pool7 8 #[] #[{ accessFlags := 1, nameIndex := 5, descriptorIndex := 6, attributes := #[] }] 1057 2 #[13] #[{ accessFlags := 26, nameIndex := 15, descriptorIndex := 16, attributes := #[] }])
  fields := #[{ name := "serialVersionUID", type := .long, accessFlags := 26, slot := 0, constantValue := 0 }]
  methods := #[k7m0]
  instanceTypes := #[]
  staticTypes := #[.long]
  resolved := Array.replicate 37 none
  statics := none }

def pool8 : Array CpInfo := pool [(1, .class_ 2), (0, u "java/lang/Comparable"), (0, .class_ 4), (0, u "java/lang/Object")] 7

/-- java/lang/Comparable -/
def k8 : Class := { plain "java/lang/Comparable" (some 0) with
  accessFlags := 1537
  interfaces := #[]
  cf := some (fileOf pool8 1 #[] #[] 1537 3 #[] #[])
  fields := #[]
  methods := #[]
  instanceTypes := #[]
  staticTypes := #[]
  resolved := Array.replicate 12 none
  statics := none }

def pool9 : Array CpInfo := pool [(1, .class_ 2), (0, u "java/lang/constant/Constable"), (0, .class_ 4), (0, u "java/lang/Object")] 6

/-- java/lang/constant/Constable -/
def k9 : Class := { plain "java/lang/constant/Constable" (some 0) with
  accessFlags := 1537
  interfaces := #[]
  cf := some (fileOf pool9 1 #[] #[] 1537 3 #[] #[])
  fields := #[]
  methods := #[]
  instanceTypes := #[]
  staticTypes := #[]
  resolved := Array.replicate 11 none
  statics := none }

def pool10 : Array CpInfo := pool [(1, .class_ 2), (0, u "java/lang/constant/ConstantDesc"), (0, .class_ 4), (0, u "java/lang/Object")] 32

/-- java/lang/constant/ConstantDesc -/
def k10 : Class := { plain "java/lang/constant/ConstantDesc" (some 0) with
  accessFlags := 1537
  interfaces := #[]
  cf := some (fileOf pool10 1 #[] #[] 1537 3 #[] #[])
  fields := #[]
  methods := #[]
  instanceTypes := #[]
  staticTypes := #[]
  resolved := Array.replicate 37 none
  statics := none }

def pool11 : Array CpInfo := pool [(1, .class_ 2), (0, u "java/lang/Integer"), (16, u "digits"), (0, u "[C"), (30, .methodref 1 52), (0, .nameAndType 53 54), (0, u "numberOfLeadingZeros"), (0, u "(I)I"), (30, u "DigitOnes"), (0, u "[B"), (2, u "DigitTens"), (37, .integer 2147483648), (61, .class_ 190), (0, u "java/lang/Integer$IntegerCache"), (3, u "I"), (8, .class_ 204), (0, u "java/lang/Number"), (2, u "value"), (56, .integer 65536), (37, u "TYPE"), (0, u "Ljava/lang/Class;"), (0, .class_ 305), (0, u "java/lang/Comparable"), (0, .class_ 307), (0, u "java/lang/constant/Constable"), (0, .class_ 309), (0, u "java/lang/constant/ConstantDesc"), (0, u "MIN_VALUE"), (1, u "MAX_VALUE"), (3, u "SIZE"), (1, u "BYTES"), (1, u "serialVersionUID"), (0, u "J"), (81, u "highestOneBit")] 49

def k11c0 : Code := { maxStack := 3, maxLocals := 1, code := jdk_33_method_45_code, exceptionTable := #[], attributes := #[] }
def k11m0 : Method := { name := "highestOneBit", desc := "(I)I", sig := { parameters := [.int], returnType := some .int }, accessFlags := 9, code := some k11c0 }
def k11c1 : Code := { maxStack := 3, maxLocals := 2, code := jdk_33_method_47_code, exceptionTable := #[], attributes := #[] }
def k11m1 : Method := { name := "numberOfLeadingZeros", desc := "(I)I", sig := { parameters := [.int], returnType := some .int }, accessFlags := 9, code := some k11c1 }
/-- java/lang/Integer -/
def k11 : Class := { plain "java/lang/Integer" (some 7) with
  accessFlags := 49
  interfaces := #[8, 9, 10]
  cf := some (fileOf pool11 1 #[.nestMembers #[189]] #[{ accessFlags := 9, nameIndex := 403, descriptorIndex := 54, attributes := #[] }, { accessFlags := 9, nameIndex := 53, descriptorIndex := 54, attributes := #[] }] 49 203 #[304, 306, 308] #[{ accessFlags := 25, nameIndex := 310, descriptorIndex := 194, attributes := #[] }, { accessFlags := 25, nameIndex := 312, descriptorIndex := 194, attributes := #[] }, { accessFlags := 25, nameIndex := 302, descriptorIndex := 303, attributes := #[] }, { accessFlags := 24, nameIndex := 19, descriptorIndex := 20, attributes := #[] }, { accessFlags := 24, nameIndex := 89, descriptorIndex := 86, attributes := #[] }, { accessFlags := 24, nameIndex := 85, descriptorIndex := 86, attributes := #[] }, { accessFlags := 18, nameIndex := 207, descriptorIndex := 194, attributes := #[] }, { accessFlags := 25, nameIndex := 316, descriptorIndex := 194, attributes := #[] }, { accessFlags := 25, nameIndex := 318, descriptorIndex := 194, attributes := #[] }, { accessFlags := 26, nameIndex := 320, descriptorIndex := 321, attributes := #[] }])
  fields := #[{ name := "MIN_VALUE", type := .int, accessFlags := 25, slot := 0, constantValue := 0 }, { name := "MAX_VALUE", type := .int, accessFlags := 25, slot := 1, constantValue := 0 }, { name := "TYPE", type := (.object "java/lang/Class"), accessFlags := 25, slot := 2, constantValue := 0 }, { name := "digits", type := (.array .char), accessFlags := 24, slot := 3, constantValue := 0 }, { name := "DigitTens", type := (.array .byte), accessFlags := 24, slot := 4, constantValue := 0 }, { name := "DigitOnes", type := (.array .byte), accessFlags := 24, slot := 5, constantValue := 0 }, { name := "value", type := .int, accessFlags := 18, slot := 0, constantValue := 0 }, { name := "SIZE", type := .int, accessFlags := 25, slot := 6, constantValue := 0 }, { name := "BYTES", type := .int, accessFlags := 25, slot := 7, constantValue := 0 }, { name := "serialVersionUID", type := .long, accessFlags := 26, slot := 8, constantValue := 0 }]
  methods := #[k11m0, k11m1]
  instanceTypes := #[.int]
  staticTypes := #[.int, .int, (.object "java/lang/Class"), (.array .char), (.array .byte), (.array .byte), .int, .int, .long]
  resolved := Array.replicate 453 none
  statics := none }

def pool12 : Array CpInfo := pool [(2, .class_ 4), (1, u "java/lang/Object"), (0, u "<init>"), (0, u "()V"), (1, .class_ 10), (1, u "java/lang/System"), (0, u "allowSecurityManager"), (0, u "I"), (16, u "cons"), (0, u "Ljava/io/Console;"), (77, .class_ 110), (1, u "java/lang/System$CallersHolder"), (43, u "initialErrStream"), (0, u "Ljava/io/PrintStream;"), (19, u "security"), (0, u "Ljava/lang/SecurityManager;"), (31, .class_ 209), (0, u "java/lang/System$1"), (7, u "props"), (0, u "Ljava/util/Properties;"), (2, u "lineSeparator"), (0, u "Ljava/lang/String;"), (96, .class_ 321), (1, u "java/lang/System$LoggerFinder"), (5, .class_ 328), (0, u "java/lang/System$Logger"), (67, u "err"), (2, u "out"), (91, u "notSupportedJnuEncoding"), (15, u "in"), (17, u "initialIn"), (0, u "Ljava/io/InputStream;"), (35, u "bootLayer"), (0, u "Ljava/lang/ModuleLayer;"), (99, .class_ 664), (0, u "java/lang/System$2"), (9, u "NEVER"), (2, u "MAYBE"), (49, u "arraycopy"), (0, u "(Ljava/lang/Object;ILjava/lang/Object;II)V"), (72, .class_ 802), (0, u "java/lang/System$Logger$Level")] 31

def k12m0 : Method := { name := "<init>", desc := "()V", sig := { parameters := [], returnType := none }, accessFlags := 2, code := none }
def k12m1 : Method := { name := "arraycopy", desc := "(Ljava/lang/Object;ILjava/lang/Object;II)V", sig := { parameters := [(.object "java/lang/Object"), .int, (.object "java/lang/Object"), .int, .int], returnType := none }, accessFlags := 265, code := none }
/-- java/lang/System -/
def k12 : Class := { plain "java/lang/System" (some 0) with
  accessFlags := 49
  interfaces := #[]
  cf := some (fileOf pool12 8 #[.nestMembers #[319, 327, 801, 108, 663, 208]] #[{ accessFlags := 2, nameIndex := 5, descriptorIndex := 6, attributes := #[] }, { accessFlags := 265, nameIndex := 727, descriptorIndex := 728, attributes := #[] }] 49 2 #[] #[{ accessFlags := 25, nameIndex := 507, descriptorIndex := 526, attributes := #[] }, { accessFlags := 25, nameIndex := 399, descriptorIndex := 155, attributes := #[] }, { accessFlags := 25, nameIndex := 396, descriptorIndex := 155, attributes := #[] }, { accessFlags := 10, nameIndex := 525, descriptorIndex := 526, attributes := #[] }, { accessFlags := 26, nameIndex := 674, descriptorIndex := 12, attributes := #[] }, { accessFlags := 26, nameIndex := 677, descriptorIndex := 12, attributes := #[] }, { accessFlags := 10, nameIndex := 11, descriptorIndex := 12, attributes := #[] }, { accessFlags := 74, nameIndex := 175, descriptorIndex := 176, attributes := #[] }, { accessFlags := 10, nameIndex := 491, descriptorIndex := 222, attributes := #[] }, { accessFlags := 74, nameIndex := 29, descriptorIndex := 30, attributes := #[] }, { accessFlags := 74, nameIndex := 154, descriptorIndex := 155, attributes := #[] }, { accessFlags := 10, nameIndex := 217, descriptorIndex := 218, attributes := #[] }, { accessFlags := 10, nameIndex := 221, descriptorIndex := 222, attributes := #[] }, { accessFlags := 8, nameIndex := 562, descriptorIndex := 563, attributes := #[] }])
  fields := #[{ name := "in", type := (.object "java/io/InputStream"), accessFlags := 25, slot := 0, constantValue := 0 }, { name := "out", type := (.object "java/io/PrintStream"), accessFlags := 25, slot := 1, constantValue := 0 }, { name := "err", type := (.object "java/io/PrintStream"), accessFlags := 25, slot := 2, constantValue := 0 }, { name := "initialIn", type := (.object "java/io/InputStream"), accessFlags := 10, slot := 3, constantValue := 0 }, { name := "NEVER", type := .int, accessFlags := 26, slot := 4, constantValue := 0 }, { name := "MAYBE", type := .int, accessFlags := 26, slot := 5, constantValue := 0 }, { name := "allowSecurityManager", type := .int, accessFlags := 10, slot := 6, constantValue := 0 }, { name := "security", type := (.object "java/lang/SecurityManager"), accessFlags := 74, slot := 7, constantValue := 0 }, { name := "notSupportedJnuEncoding", type := (.object "java/lang/String"), accessFlags := 10, slot := 8, constantValue := 0 }, { name := "cons", type := (.object "java/io/Console"), accessFlags := 74, slot := 9, constantValue := 0 }, { name := "initialErrStream", type := (.object "java/io/PrintStream"), accessFlags := 74, slot := 10, constantValue := 0 }, { name := "props", type := (.object "java/util/Properties"), accessFlags := 10, slot := 11, constantValue := 0 }, { name := "lineSeparator", type := (.object "java/lang/String"), accessFlags := 10, slot := 12, constantValue := 0 }, { name := "bootLayer", type := (.object "java/lang/ModuleLayer"), accessFlags := 8, slot := 13, constantValue := 0 }]
  methods := #[k12m0, k12m1]
  instanceTypes := #[]
  staticTypes := #[(.object "java/io/InputStream"), (.object "java/io/PrintStream"), (.object "java/io/PrintStream"), (.object "java/io/InputStream"), .int, .int, .int, (.object "java/lang/SecurityManager"), (.object "java/lang/String"), (.object "java/io/Console"), (.object "java/io/PrintStream"), (.object "java/util/Properties"), (.object "java/lang/String"), (.object "java/lang/ModuleLayer")]
  resolved := Array.replicate 834 none
  statics := none }

def pool13 : Array CpInfo := pool [(8, .class_ 10), (1, u "java/lang/Iterable"), (24, .class_ 36), (0, u "java/lang/Object")] 25

/-- java/lang/Iterable -/
def k13 : Class := { plain "java/lang/Iterable" (some 0) with
  accessFlags := 1537
  interfaces := #[]
  cf := some (fileOf pool13 8 #[] #[] 1537 35 #[] #[])
  fields := #[]
  methods := #[]
  instanceTypes := #[]
  staticTypes := #[]
  resolved := Array.replicate 62 none
  statics := none }

def pool14 : Array CpInfo := pool [(10, .class_ 12), (1, u "java/util/Collection"), (47, .class_ 61), (0, u "java/lang/Object"), (0, .class_ 63), (0, u "java/lang/Iterable")] 51

/-- java/util/Collection -/
def k14 : Class := { plain "java/util/Collection" (some 0) with
  accessFlags := 1537
  interfaces := #[13]
  cf := some (fileOf pool14 10 #[] #[] 1537 60 #[62] #[])
  fields := #[]
  methods := #[]
  instanceTypes := #[]
  staticTypes := #[]
  resolved := Array.replicate 115 none
  statics := none }

def pool15 : Array CpInfo := pool [(1, .methodref 2 3), (0, .class_ 4), (0, .nameAndType 5 6), (0, u "java/lang/Object"), (0, u "<init>"), (0, u "()V"), (1, .class_ 10), (1, u "java/util/AbstractCollection"), (66, .class_ 78), (0, u "java/util/Collection")] 81

def k15c0 : Code := { maxStack := 1, maxLocals := 1, code := jdk_22_method_1_code, exceptionTable := #[], attributes := #[] }
def k15m0 : Method := { name := "<init>", desc := "()V", sig := { parameters := [], returnType := none }, accessFlags := 4, code := some k15c0 }
/-- java/util/AbstractCollection -/
def k15 : Class := { plain "java/util/AbstractCollection" (some 0) with
  accessFlags := 1057
  interfaces := #[14]
  cf := some (fileOf pool15 8 #[] #[{ accessFlags := 4, nameIndex := 5, descriptorIndex := 6, attributes := #[] }] 1057 2 #[77] #[])
  fields := #[]
  methods := #[k15m0]
  instanceTypes := #[]
  staticTypes := #[]
  resolved := Array.replicate 160 none
  statics := none }

def pool16 : Array CpInfo := pool [(8, .class_ 10), (1, u "java/util/SequencedCollection"), (15, .class_ 27), (0, u "java/lang/Object"), (0, .class_ 29), (0, u "java/util/Collection")] 27

/-- java/util/SequencedCollection -/
def k16 : Class := { plain "java/util/SequencedCollection" (some 0) with
  accessFlags := 1537
  interfaces := #[14]
  cf := some (fileOf pool16 8 #[] #[] 1537 26 #[28] #[])
  fields := #[]
  methods := #[]
  instanceTypes := #[]
  staticTypes := #[]
  resolved := Array.replicate 57 none
  statics := none }

def pool17 : Array CpInfo := pool [(8, .class_ 10), (1, u "java/util/List"), (49, u "add"), (3, u "(Ljava/lang/Object;)Z"), (38, .class_ 104), (0, u "java/lang/Object"), (15, .class_ 121), (0, u "java/util/SequencedCollection")] 129

def k17m0 : Method := { name := "add", desc := "(Ljava/lang/Object;)Z", sig := { parameters := [(.object "java/lang/Object")], returnType := some .boolean }, accessFlags := 1025, code := none }
/-- java/util/List -/
def k17 : Class := { plain "java/util/List" (some 0) with
  accessFlags := 1537
  interfaces := #[16]
  cf := some (fileOf pool17 8 #[] #[{ accessFlags := 1025, nameIndex := 60, descriptorIndex := 64, attributes := #[] }] 1537 103 #[120] #[])
  fields := #[]
  methods := #[k17m0]
  instanceTypes := #[]
  staticTypes := #[]
  resolved := Array.replicate 251 none
  statics := none }

def pool18 : Array CpInfo := pool [(1, .methodref 2 3), (0, .class_ 4), (0, .nameAndType 5 6), (0, u "java/util/AbstractCollection"), (0, u "<init>"), (0, u "()V"), (0, .fieldref 8 9), (0, .class_ 10), (0, .nameAndType 11 12), (0, u "java/util/AbstractList"), (0, u "modCount"), (0, u "I"), (64, .class_ 78), (0, u "java/util/AbstractList$Itr"), (3, .class_ 83), (0, u "java/util/AbstractList$ListItr"), (9, .class_ 94), (0, u "java/util/AbstractList$RandomAccessSubList"), (3, .class_ 99), (0, u "java/util/AbstractList$SubList"), (33, .class_ 134), (0, u "java/util/List"), (73, .class_ 209), (0, u "java/util/AbstractList$SubList$1"), (0, .class_ 211), (0, u "java/util/AbstractList$RandomAccessSpliterator")] 6

def k18c0 : Code := { maxStack := 2, maxLocals := 1, code := jdk_39_method_1_code, exceptionTable := #[], attributes := #[] }
def k18m0 : Method := { name := "<init>", desc := "()V", sig := { parameters := [], returnType := none }, accessFlags := 4, code := some k18c0 }
/-- java/util/AbstractList -/
def k18 : Class := { plain "java/util/AbstractList" (some 15) with
  accessFlags := 1057
  interfaces := #[17]
  cf := some (fileOf pool18 8 #[.nestMembers #[93, 98, 208, 210, 82, 77]] #[{ accessFlags := 4, nameIndex := 5, descriptorIndex := 6, attributes := #[] }] 1057 2 #[133] #[{ accessFlags := 132, nameIndex := 11, descriptorIndex := 12, attributes := #[] }])
  fields := #[{ name := "modCount", type := .int, accessFlags := 132, slot := 0, constantValue := 0 }]
  methods := #[k18m0]
  instanceTypes := #[.int]
  staticTypes := #[]
  resolved := Array.replicate 218 none
  statics := none }

def pool19 : Array CpInfo := pool [(1, .class_ 2), (0, u "java/util/RandomAccess"), (0, .class_ 4), (0, u "java/lang/Object")] 2

/-- java/util/RandomAccess -/
def k19 : Class := { plain "java/util/RandomAccess" (some 0) with
  accessFlags := 1537
  interfaces := #[]
  cf := some (fileOf pool19 1 #[] #[] 1537 3 #[] #[])
  fields := #[]
  methods := #[]
  instanceTypes := #[]
  staticTypes := #[]
  resolved := Array.replicate 7 none
  statics := none }

def pool20 : Array CpInfo := pool [(1, .methodref 2 3), (0, .class_ 4), (0, .nameAndType 5 6), (0, u "java/util/AbstractList"), (0, u "<init>"), (0, u "()V"), (0, .class_ 8), (0, u "java/lang/Object"), (0, .fieldref 10 11), (0, .class_ 12), (0, .nameAndType 13 14), (0, u "java/util/ArrayList"), (0, u "elementData"), (0, u "[Ljava/lang/Object;"), (2, u "EMPTY_ELEMENTDATA"), (21, .fieldref 10 40), (0, .nameAndType 41 14), (0, u "DEFAULTCAPACITY_EMPTY_ELEMENTDATA"), (5, u "()[Ljava/lang/Object;"), (0, .fieldref 10 49), (0, .nameAndType 50 51), (0, u "size"), (0, u "I"), (11, .fieldref 10 64), (0, .nameAndType 65 51), (0, u "modCount"), (3, .methodref 10 70), (0, .nameAndType 71 72), (0, u "grow"), (0, u "(I)[Ljava/lang/Object;"), (6, .methodref 80 81), (0, .class_ 82), (0, .nameAndType 83 84), (0, u "java/lang/Math"), (0, u "max"), (0, u "(II)I"), (11, u "(Ljava/lang/Object;)Z"), (32, .methodref 10 130), (0, .nameAndType 71 47), (0, .methodref 10 132), (0, .nameAndType 133 134), (0, u "add"), (0, u "(Ljava/lang/Object;[Ljava/lang/Object;I)V"), (13, .class_ 149), (0, u "java/util/List"), (112, .class_ 263), (0, u "java/util/ArrayList$ListItr"), (3, .class_ 268), (0, u "java/util/ArrayList$Itr"), (7, .class_ 277), (0, u "java/util/ArrayList$SubList"), (12, .class_ 291), (0, u "java/util/ArrayList$ArrayListSpliterator"), (37, .class_ 330), (0, u "java/util/RandomAccess"), (0, .class_ 332), (0, u "java/lang/Cloneable"), (0, .class_ 334), (0, u "java/io/Serializable"), (0, u "serialVersionUID"), (0, u "J"), (3, u "DEFAULT_CAPACITY"), (159, .class_ 501), (0, u "java/util/ArrayList$SubList$2"), (0, .class_ 503), (0, u "java/util/ArrayList$SubList$1")] 5

def k20c0 : Code := { maxStack := 2, maxLocals := 1, code := jdk_38_method_2_code, exceptionTable := #[], attributes := #[] }
def k20m0 : Method := { name := "<init>", desc := "()V", sig := { parameters := [], returnType := none }, accessFlags := 1, code := some k20c0 }
def k20c1 : Code := { maxStack := 4, maxLocals := 4, code := jdk_38_method_6_code, exceptionTable := #[], attributes := #[] }
def k20m1 : Method := { name := "grow", desc := "(I)[Ljava/lang/Object;", sig := { parameters := [.int], returnType := some (.array (.object "java/lang/Object")) }, accessFlags := 2, code := some k20c1 }
def k20c2 : Code := { maxStack := 3, maxLocals := 1, code := jdk_38_method_7_code, exceptionTable := #[], attributes := #[] }
def k20m2 : Method := { name := "grow", desc := "()[Ljava/lang/Object;", sig := { parameters := [], returnType := some (.array (.object "java/lang/Object")) }, accessFlags := 2, code := some k20c2 }
def k20c3 : Code := { maxStack := 3, maxLocals := 4, code := jdk_38_method_24_code, exceptionTable := #[], attributes := #[] }
def k20m3 : Method := { name := "add", desc := "(Ljava/lang/Object;[Ljava/lang/Object;I)V", sig := { parameters := [(.object "java/lang/Object"), (.array (.object "java/lang/Object")), .int], returnType := none }, accessFlags := 2, code := some k20c3 }
def k20c4 : Code := { maxStack := 4, maxLocals := 2, code := jdk_38_method_25_code, exceptionTable := #[], attributes := #[] }
def k20m4 : Method := { name := "add", desc := "(Ljava/lang/Object;)Z", sig := { parameters := [(.object "java/lang/Object")], returnType := some .boolean }, accessFlags := 1, code := some k20c4 }
/-- java/util/ArrayList -/
def k20 : Class := { plain "java/util/ArrayList" (some 18) with
  accessFlags := 33
  interfaces := #[17, 19, 4, 6]
  cf := some (fileOf pool20 10 #[.nestMembers #[290, 276, 500, 502, 262, 267]] #[{ accessFlags := 1, nameIndex := 5, descriptorIndex := 6, attributes := #[] }, { accessFlags := 2, nameIndex := 71, descriptorIndex := 72, attributes := #[] }, { accessFlags := 2, nameIndex := 71, descriptorIndex := 47, attributes := #[] }, { accessFlags := 2, nameIndex := 133, descriptorIndex := 134, attributes := #[] }, { accessFlags := 1, nameIndex := 133, descriptorIndex := 96, attributes := #[] }] 33 2 #[148, 329, 331, 333] #[{ accessFlags := 26, nameIndex := 335, descriptorIndex := 336, attributes := #[] }, { accessFlags := 26, nameIndex := 340, descriptorIndex := 51, attributes := #[] }, { accessFlags := 26, nameIndex := 17, descriptorIndex := 14, attributes := #[] }, { accessFlags := 26, nameIndex := 41, descriptorIndex := 14, attributes := #[] }, { accessFlags := 128, nameIndex := 13, descriptorIndex := 14, attributes := #[] }, { accessFlags := 2, nameIndex := 50, descriptorIndex := 51, attributes := #[] }])
  fields := #[{ name := "serialVersionUID", type := .long, accessFlags := 26, slot := 0, constantValue := 0 }, { name := "DEFAULT_CAPACITY", type := .int, accessFlags := 26, slot := 1, constantValue := 0 }, { name := "EMPTY_ELEMENTDATA", type := (.array (.object "java/lang/Object")), accessFlags := 26, slot := 2, constantValue := 0 }, { name := "DEFAULTCAPACITY_EMPTY_ELEMENTDATA", type := (.array (.object "java/lang/Object")), accessFlags := 26, slot := 3, constantValue := 0 }, { name := "elementData", type := (.array (.object "java/lang/Object")), accessFlags := 128, slot := 1, constantValue := 0 }, { name := "size", type := .int, accessFlags := 2, slot := 2, constantValue := 0 }]
  methods := #[k20m0, k20m1, k20m2, k20m3, k20m4]
  instanceTypes := #[.int, (.array (.object "java/lang/Object")), .int]
  staticTypes := #[.long, .int, (.array (.object "java/lang/Object")), (.array (.object "java/lang/Object"))]
  resolved := Array.replicate 509 none
  statics := some 1 }

/-- the primitive byte -/
def k21 : Class := { plain "byte" none with kind := .primitive 'B', accessFlags := 0x411 }
/-- [B -/
def k22 : Class := { plain "[B" (some 0) with kind := .array 21 .byte, interfaces := #[4, 6], accessFlags := 1041 }

/-- the primitive int -/
def k23 : Class := { plain "int" none with kind := .primitive 'I', accessFlags := 0x411 }
/-- [I -/
def k24 : Class := { plain "[I" (some 0) with kind := .array 23 .int, interfaces := #[4, 6], accessFlags := 1041 }

/-- [Ljava/lang/Object; -/
def k25 : Class := { plain "[Ljava/lang/Object;" (some 0) with kind := .array 0 (.object "java/lang/Object"), interfaces := #[4, 6], accessFlags := 1041 }

def heap : Heap := #[{ cls := 2, slots := #[.int 0, .ref 2], vm := .statics 2 },
  { cls := 20, slots := #[.long 0, .int 0, .ref 3, .ref 4], vm := .statics 20 },
  { cls := 22, slots := #[], vm := .none },
  { cls := 25, slots := #[], vm := .none },
  { cls := 25, slots := #[], vm := .none }]
def classes : Array Class := #[k0, k1, k2, k3, k4, k5, k6, k7, k8, k9, k10, k11, k12, k13, k14, k15, k16, k17, k18, k19, k20, k21, k22, k23, k24, k25]
def interned : List (Array UInt16 × Addr) := []
def slotsUsed : Nat := 6
def theMethod : MethodId := ⟨1, 1⟩
def args0 : Array Value := #[.int 1, .int 2, .int 3, .int 4, .int 5]
def aboutOver (below : List Frame) : State where
  vm := { classes := classes, interned := interned.toArray }
  heap := heap
  slotsUsed := slotsUsed
  threads := #[{ frames := .invoking theMethod args0 :: below }]
def below0 : List Frame := [.native { method := ⟨0, 0⟩, args := #[] }]
def about1 : State := aboutOver below0
def p0 : Program := .bare "" "" ""
def e0 : Env := launch0.env 0 0 0
theorem w_frames : about1.frames = Frame.invoking theMethod args0 :: below0 := rfl
set_option maxRecDepth 65536 in
theorem w_args : argsFit about1.vm theMethod args0 = true := by decide +kernel
set_option maxRecDepth 65536 in
theorem w_heap : heapFits about1 = true := by decide +kernel
set_option maxRecDepth 65536 in
theorem w_runnable : about1.curStatus? = some .runnable := by decide +kernel
set_option maxRecDepth 65536 in
theorem w_alone : about1.alone = true := by decide +kernel
set_option maxRecDepth 65536 in
theorem w_named : about1.methodNamed? x = some theMethod := by decide +kernel
set_option maxRecDepth 65536 in
theorem w_hears : about1.hears theMethod below0 = true := by decide +kernel
set_option maxRecDepth 65536 in
theorem w_ripe : about1.ripe theMethod args0 below0 = true := by decide +kernel
theorem w_running : about1.status = .running := rfl
set_option maxRecDepth 65536 in
theorem w_room : about1.hasRoom e0.platform room_1 = true :=
  launch0.hasRoom_least _ room_1 (by decide +kernel) (by decide +kernel) (by decide +kernel) (by decide +kernel) (by decide +kernel) (by decide +kernel)
theorem allAtoms_all (ts : List Jvm.Cond) (a : Array Jvm.Value) (st : Jvm.State) : (allAtoms ts).before a st = ts.all (fun c => c.before a st) := by
  induction ts with
  | nil => rfl
  | cons c t ih =>
    show (Jvm.Cond.and c (allAtoms t)).before a st = _
    rw [Jvm.Cond.before_and, ih, List.all_cons]
def words1 : List Jvm.Cond := Jvm.Cond.code x code maxLocals ret :: tables_1
/-- a 'code' word, met by the world's own term for the bytes: nothing is compared byte by byte -/
theorem code_word {y : MethodName} {bytes : ByteArray} {mx : Nat} {rt : Option FieldType} {a : Array Value} {s : State} {m : MethodId} {meth : Method} {c : Code} (h1 : s.methodNamed? y = some m) (h2 : s.vm.method? m = some meth) (h3 : meth.code = some c) (h4 : c.code = bytes)
    (h5 : (c.maxLocals == mx && c.exceptionTable.isEmpty && decide (c.maxStack ≤ mostOperands) && decide (meth.sig.returnType = rt) && !meth.locks && decide (parseMethodDescriptor y.desc = some meth.sig)) = true) : (Jvm.Cond.code y bytes mx rt).before a s = true := by
  simp only [Bool.and_eq_true, beq_iff_eq, Bool.not_eq_true', decide_eq_true_eq] at h5
  obtain ⟨⟨⟨⟨⟨g1, g2⟩, g3⟩, g4⟩, g5⟩, g6⟩ := h5
  simp [Cond.before, Cond.holds, Cond.value, h1, h2, h3, h4, g1, g2, g3, g4, g5, g6]
def isCode : Jvm.Cond → Bool
  | .code _ _ _ _ => true
  | _ => false
theorem all_split {L : List Jvm.Cond} {P : Jvm.Cond → Bool} (h1 : L.all (fun c => isCode c || P c) = true) (h2 : ∀ c ∈ L.filter isCode, P c = true) : L.all P = true := by
  refine List.all_eq_true.mpr fun c hc => ?_
  have h := List.all_eq_true.mp h1 c hc
  rcases Bool.eq_false_or_eq_true (isCode c) with hi | hi
  · exact h2 c (List.mem_filter.mpr ⟨hc, hi⟩)
  · simpa [hi] using h
set_option maxRecDepth 65536 in
theorem w_c0 : (Jvm.Cond.code x code maxLocals ret).before args0 about1 = true := code_word (m := ⟨1, 1⟩) (meth := k1m1) (c := k1c1) (by decide +kernel) rfl rfl rfl (by decide +kernel)
set_option maxRecDepth 65536 in
theorem w_c1 : (Jvm.Cond.code ({ cls := "com/example/loomwire/loomwire/transport/MessageBuffer", name := "<init>", desc := "()V" } : Jvm.MethodName) prog_102_method_1_code (1 : Nat) (Option.none : Option Jvm.ClassFile.FieldType)).before args0 about1 = true := code_word (m := ⟨2, 0⟩) (meth := k2m0) (c := k2c0) (by decide +kernel) rfl rfl rfl (by decide +kernel)
set_option maxRecDepth 65536 in
theorem w_c2 : (Jvm.Cond.code ({ cls := "java/lang/Object", name := "<init>", desc := "()V" } : Jvm.MethodName) object_method_1_code (1 : Nat) (Option.none : Option Jvm.ClassFile.FieldType)).before args0 about1 = true := code_word (m := ⟨0, 0⟩) (meth := k0m0) (c := k0c0) (by decide +kernel) rfl rfl rfl (by decide +kernel)
set_option maxRecDepth 65536 in
theorem w_c3 : (Jvm.Cond.code ({ cls := "com/example/loomwire/loomwire/transport/MessageBuffer", name := "append", desc := "([B)V" } : Jvm.MethodName) prog_102_method_4_code (4 : Nat) (Option.none : Option Jvm.ClassFile.FieldType)).before args0 about1 = true := code_word (m := ⟨2, 2⟩) (meth := k2m2) (c := k2c2) (by decide +kernel) rfl rfl rfl (by decide +kernel)
set_option maxRecDepth 65536 in
theorem w_c4 : (Jvm.Cond.code ({ cls := "com/example/loomwire/loomwire/transport/MessageBuffer", name := "clear", desc := "()V" } : Jvm.MethodName) prog_102_method_5_code (1 : Nat) (Option.none : Option Jvm.ClassFile.FieldType)).before args0 about1 = true := code_word (m := ⟨2, 3⟩) (meth := k2m3) (c := k2c3) (by decide +kernel) rfl rfl rfl (by decide +kernel)
set_option maxRecDepth 65536 in
theorem w_c5 : (Jvm.Cond.code ({ cls := "com/example/loomwire/loomwire/transport/MessageBuffer", name := "length", desc := "()I" } : Jvm.MethodName) prog_102_method_3_code (1 : Nat) (Option.some Jvm.ClassFile.FieldType.int)).before args0 about1 = true := code_word (m := ⟨2, 1⟩) (meth := k2m1) (c := k2c1) (by decide +kernel) rfl rfl rfl (by decide +kernel)
set_option maxRecDepth 65536 in
theorem w_c6 : (Jvm.Cond.code ({ cls := "com/example/loomwire/loomwire/transport/MessageBuffer", name := "toArray", desc := "()[B" } : Jvm.MethodName) prog_102_method_6_code (5 : Nat) (Option.some (Jvm.ClassFile.FieldType.array Jvm.ClassFile.FieldType.byte))).before args0 about1 = true := code_word (m := ⟨2, 4⟩) (meth := k2m4) (c := k2c4) (by decide +kernel) rfl rfl rfl (by decide +kernel)
set_option maxRecDepth 65536 in
theorem w_c7 : (Jvm.Cond.code ({ cls := "java/util/Arrays", name := "copyOf", desc := "([BI)[B" } : Jvm.MethodName) jdk_65_method_121_code (3 : Nat) (Option.some (Jvm.ClassFile.FieldType.array Jvm.ClassFile.FieldType.byte))).before args0 about1 = true := code_word (m := ⟨3, 1⟩) (meth := k3m1) (c := k3c1) (by decide +kernel) rfl rfl rfl (by decide +kernel)
set_option maxRecDepth 65536 in
theorem w_c8 : (Jvm.Cond.code ({ cls := "java/lang/Math", name := "min", desc := "(II)I" } : Jvm.MethodName) jdk_29_method_69_code (2 : Nat) (Option.some Jvm.ClassFile.FieldType.int)).before args0 about1 = true := code_word (m := ⟨5, 2⟩) (meth := k5m2) (c := k5c2) (by decide +kernel) rfl rfl rfl (by decide +kernel)
set_option maxRecDepth 65536 in
theorem w_c9 : (Jvm.Cond.code ({ cls := "com/example/loomwire/loomwire/transport/MessageBuffer", name := "chunkCapacity", desc := "(I)I" } : Jvm.MethodName) prog_102_method_7_code (1 : Nat) (Option.some Jvm.ClassFile.FieldType.int)).before args0 about1 = true := code_word (m := ⟨2, 5⟩) (meth := k2m5) (c := k2c5) (by decide +kernel) rfl rfl rfl (by decide +kernel)
set_option maxRecDepth 65536 in
theorem w_c10 : (Jvm.Cond.code ({ cls := "java/lang/Integer", name := "highestOneBit", desc := "(I)I" } : Jvm.MethodName) jdk_33_method_45_code (1 : Nat) (Option.some Jvm.ClassFile.FieldType.int)).before args0 about1 = true := code_word (m := ⟨11, 0⟩) (meth := k11m0) (c := k11c0) (by decide +kernel) rfl rfl rfl (by decide +kernel)
set_option maxRecDepth 65536 in
theorem w_c11 : (Jvm.Cond.code ({ cls := "java/lang/Integer", name := "numberOfLeadingZeros", desc := "(I)I" } : Jvm.MethodName) jdk_33_method_47_code (2 : Nat) (Option.some Jvm.ClassFile.FieldType.int)).before args0 about1 = true := code_word (m := ⟨11, 1⟩) (meth := k11m1) (c := k11c1) (by decide +kernel) rfl rfl rfl (by decide +kernel)
set_option maxRecDepth 65536 in
theorem w_c12 : (Jvm.Cond.code ({ cls := "java/util/ArrayList", name := "<init>", desc := "()V" } : Jvm.MethodName) jdk_38_method_2_code (1 : Nat) (Option.none : Option Jvm.ClassFile.FieldType)).before args0 about1 = true := code_word (m := ⟨20, 0⟩) (meth := k20m0) (c := k20c0) (by decide +kernel) rfl rfl rfl (by decide +kernel)
set_option maxRecDepth 65536 in
theorem w_c13 : (Jvm.Cond.code ({ cls := "java/util/AbstractList", name := "<init>", desc := "()V" } : Jvm.MethodName) jdk_39_method_1_code (1 : Nat) (Option.none : Option Jvm.ClassFile.FieldType)).before args0 about1 = true := code_word (m := ⟨18, 0⟩) (meth := k18m0) (c := k18c0) (by decide +kernel) rfl rfl rfl (by decide +kernel)
set_option maxRecDepth 65536 in
theorem w_c14 : (Jvm.Cond.code ({ cls := "java/util/AbstractCollection", name := "<init>", desc := "()V" } : Jvm.MethodName) jdk_22_method_1_code (1 : Nat) (Option.none : Option Jvm.ClassFile.FieldType)).before args0 about1 = true := code_word (m := ⟨15, 0⟩) (meth := k15m0) (c := k15c0) (by decide +kernel) rfl rfl rfl (by decide +kernel)
set_option maxRecDepth 65536 in
theorem w_c15 : (Jvm.Cond.code ({ cls := "java/util/ArrayList", name := "add", desc := "(Ljava/lang/Object;)Z" } : Jvm.MethodName) jdk_38_method_25_code (2 : Nat) (Option.some Jvm.ClassFile.FieldType.boolean)).before args0 about1 = true := code_word (m := ⟨20, 4⟩) (meth := k20m4) (c := k20c4) (by decide +kernel) rfl rfl rfl (by decide +kernel)
set_option maxRecDepth 65536 in
theorem w_c16 : (Jvm.Cond.code ({ cls := "java/util/ArrayList", name := "add", desc := "(Ljava/lang/Object;[Ljava/lang/Object;I)V" } : Jvm.MethodName) jdk_38_method_24_code (4 : Nat) (Option.none : Option Jvm.ClassFile.FieldType)).before args0 about1 = true := code_word (m := ⟨20, 3⟩) (meth := k20m3) (c := k20c3) (by decide +kernel) rfl rfl rfl (by decide +kernel)
set_option maxRecDepth 65536 in
theorem w_c17 : (Jvm.Cond.code ({ cls := "java/util/ArrayList", name := "grow", desc := "()[Ljava/lang/Object;" } : Jvm.MethodName) jdk_38_method_7_code (1 : Nat) (Option.some (Jvm.ClassFile.FieldType.array (Jvm.ClassFile.FieldType.object "java/lang/Object")))).before args0 about1 = true := code_word (m := ⟨20, 2⟩) (meth := k20m2) (c := k20c2) (by decide +kernel) rfl rfl rfl (by decide +kernel)
set_option maxRecDepth 65536 in
theorem w_c18 : (Jvm.Cond.code ({ cls := "java/util/ArrayList", name := "grow", desc := "(I)[Ljava/lang/Object;" } : Jvm.MethodName) jdk_38_method_6_code (4 : Nat) (Option.some (Jvm.ClassFile.FieldType.array (Jvm.ClassFile.FieldType.object "java/lang/Object")))).before args0 about1 = true := code_word (m := ⟨20, 1⟩) (meth := k20m1) (c := k20c1) (by decide +kernel) rfl rfl rfl (by decide +kernel)
set_option maxRecDepth 65536 in
theorem w_c19 : (Jvm.Cond.code ({ cls := "java/lang/Math", name := "max", desc := "(II)I" } : Jvm.MethodName) jdk_29_method_65_code (2 : Nat) (Option.some Jvm.ClassFile.FieldType.int)).before args0 about1 = true := code_word (m := ⟨5, 1⟩) (meth := k5m1) (c := k5c1) (by decide +kernel) rfl rfl rfl (by decide +kernel)
def codes1 : List Jvm.Cond := [Jvm.Cond.code x code maxLocals ret, Jvm.Cond.code ({ cls := "com/example/loomwire/loomwire/transport/MessageBuffer", name := "<init>", desc := "()V" } : Jvm.MethodName) prog_102_method_1_code (1 : Nat) (Option.none : Option Jvm.ClassFile.FieldType), Jvm.Cond.code ({ cls := "java/lang/Object", name := "<init>", desc := "()V" } : Jvm.MethodName) object_method_1_code (1 : Nat) (Option.none : Option Jvm.ClassFile.FieldType), Jvm.Cond.code ({ cls := "com/example/loomwire/loomwire/transport/MessageBuffer", name := "append", desc := "([B)V" } : Jvm.MethodName) prog_102_method_4_code (4 : Nat) (Option.none : Option Jvm.ClassFile.FieldType), Jvm.Cond.code ({ cls := "com/example/loomwire/loomwire/transport/MessageBuffer", name := "clear", desc := "()V" } : Jvm.MethodName) prog_102_method_5_code (1 : Nat) (Option.none : Option Jvm.ClassFile.FieldType), Jvm.Cond.code ({ cls := "com/example/loomwire/loomwire/transport/MessageBuffer", name := "length", desc := "()I" } : Jvm.MethodName) prog_102_method_3_code (1 : Nat) (Option.some Jvm.ClassFile.FieldType.int), Jvm.Cond.code ({ cls := "com/example/loomwire/loomwire/transport/MessageBuffer", name := "toArray", desc := "()[B" } : Jvm.MethodName) prog_102_method_6_code (5 : Nat) (Option.some (Jvm.ClassFile.FieldType.array Jvm.ClassFile.FieldType.byte)), Jvm.Cond.code ({ cls := "java/util/Arrays", name := "copyOf", desc := "([BI)[B" } : Jvm.MethodName) jdk_65_method_121_code (3 : Nat) (Option.some (Jvm.ClassFile.FieldType.array Jvm.ClassFile.FieldType.byte)), Jvm.Cond.code ({ cls := "java/lang/Math", name := "min", desc := "(II)I" } : Jvm.MethodName) jdk_29_method_69_code (2 : Nat) (Option.some Jvm.ClassFile.FieldType.int), Jvm.Cond.code ({ cls := "com/example/loomwire/loomwire/transport/MessageBuffer", name := "chunkCapacity", desc := "(I)I" } : Jvm.MethodName) prog_102_method_7_code (1 : Nat) (Option.some Jvm.ClassFile.FieldType.int), Jvm.Cond.code ({ cls := "java/lang/Integer", name := "highestOneBit", desc := "(I)I" } : Jvm.MethodName) jdk_33_method_45_code (1 : Nat) (Option.some Jvm.ClassFile.FieldType.int), Jvm.Cond.code ({ cls := "java/lang/Integer", name := "numberOfLeadingZeros", desc := "(I)I" } : Jvm.MethodName) jdk_33_method_47_code (2 : Nat) (Option.some Jvm.ClassFile.FieldType.int), Jvm.Cond.code ({ cls := "java/util/ArrayList", name := "<init>", desc := "()V" } : Jvm.MethodName) jdk_38_method_2_code (1 : Nat) (Option.none : Option Jvm.ClassFile.FieldType), Jvm.Cond.code ({ cls := "java/util/AbstractList", name := "<init>", desc := "()V" } : Jvm.MethodName) jdk_39_method_1_code (1 : Nat) (Option.none : Option Jvm.ClassFile.FieldType), Jvm.Cond.code ({ cls := "java/util/AbstractCollection", name := "<init>", desc := "()V" } : Jvm.MethodName) jdk_22_method_1_code (1 : Nat) (Option.none : Option Jvm.ClassFile.FieldType), Jvm.Cond.code ({ cls := "java/util/ArrayList", name := "add", desc := "(Ljava/lang/Object;)Z" } : Jvm.MethodName) jdk_38_method_25_code (2 : Nat) (Option.some Jvm.ClassFile.FieldType.boolean), Jvm.Cond.code ({ cls := "java/util/ArrayList", name := "add", desc := "(Ljava/lang/Object;[Ljava/lang/Object;I)V" } : Jvm.MethodName) jdk_38_method_24_code (4 : Nat) (Option.none : Option Jvm.ClassFile.FieldType), Jvm.Cond.code ({ cls := "java/util/ArrayList", name := "grow", desc := "()[Ljava/lang/Object;" } : Jvm.MethodName) jdk_38_method_7_code (1 : Nat) (Option.some (Jvm.ClassFile.FieldType.array (Jvm.ClassFile.FieldType.object "java/lang/Object"))), Jvm.Cond.code ({ cls := "java/util/ArrayList", name := "grow", desc := "(I)[Ljava/lang/Object;" } : Jvm.MethodName) jdk_38_method_6_code (4 : Nat) (Option.some (Jvm.ClassFile.FieldType.array (Jvm.ClassFile.FieldType.object "java/lang/Object"))), Jvm.Cond.code ({ cls := "java/lang/Math", name := "max", desc := "(II)I" } : Jvm.MethodName) jdk_29_method_65_code (2 : Nat) (Option.some Jvm.ClassFile.FieldType.int)]
set_option maxRecDepth 65536 in
theorem codes_eq : words1.filter isCode = codes1 := rfl
theorem w_codes : ∀ c ∈ words1.filter isCode, c.before args0 about1 = true := by
  rw [codes_eq]
  intro c hc
  simp only [codes1, List.mem_cons, List.not_mem_nil, or_false] at hc
  rcases hc with rfl | rfl | rfl | rfl | rfl | rfl | rfl | rfl | rfl | rfl | rfl | rfl | rfl | rfl | rfl | rfl | rfl | rfl | rfl | rfl
  · exact w_c0
  · exact w_c1
  · exact w_c2
  · exact w_c3
  · exact w_c4
  · exact w_c5
  · exact w_c6
  · exact w_c7
  · exact w_c8
  · exact w_c9
  · exact w_c10
  · exact w_c11
  · exact w_c12
  · exact w_c13
  · exact w_c14
  · exact w_c15
  · exact w_c16
  · exact w_c17
  · exact w_c18
  · exact w_c19
set_option maxRecDepth 65536 in
theorem w_t1 : (words1.take 24).all (fun c => isCode c || c.before args0 about1) = true := by decide +kernel
set_option maxRecDepth 65536 in
theorem w_t2 : ((words1.drop 24).take 24).all (fun c => isCode c || c.before args0 about1) = true := by decide +kernel
set_option maxRecDepth 65536 in
theorem w_t3 : (((words1.drop 24).drop 24).take 24).all (fun c => isCode c || c.before args0 about1) = true := by decide +kernel
set_option maxRecDepth 65536 in
theorem w_t4 : ((((words1.drop 24).drop 24).drop 24).take 24).all (fun c => isCode c || c.before args0 about1) = true := by decide +kernel
set_option maxRecDepth 65536 in
theorem w_t5 : (((((words1.drop 24).drop 24).drop 24).drop 24).take 24).all (fun c => isCode c || c.before args0 about1) = true := by decide +kernel
set_option maxRecDepth 65536 in
theorem w_t6 : (((((words1.drop 24).drop 24).drop 24).drop 24).drop 24).all (fun c => isCode c || c.before args0 about1) = true := by decide +kernel
theorem w_tables : (allAtoms (Jvm.Cond.code x code maxLocals ret :: tables_1)).before args0 about1 = true := by
  rw [allAtoms_all]
  show words1.all (fun c => c.before args0 about1) = true
  refine all_split ?_ w_codes
  rw [← List.take_append_drop 24 words1, List.all_append, w_t1, ← List.take_append_drop 24 (words1.drop 24), List.all_append, w_t2, ← List.take_append_drop 24 ((words1.drop 24).drop 24), List.all_append, w_t3, ← List.take_append_drop 24 (((words1.drop 24).drop 24).drop 24), List.all_append, w_t4, ← List.take_append_drop 24 ((((words1.drop 24).drop 24).drop 24).drop 24), List.all_append, w_t5, w_t6]
  rfl
set_option maxRecDepth 65536 in
theorem w_rest : rest_1_c.before args0 about1 = true := by decide +kernel
set_option maxRecDepth 65536 in
theorem w_case : (Jvm.Cond.and given_1 narrow_1).before args0 about1 = true := by decide +kernel
theorem w_applies : (headSpec (Jvm.Cond.code x code maxLocals ret :: tables_1) room_1).applies x e0.platform about1 = true :=
  (Spec.applies_iff w_frames).mpr ⟨w_running, w_runnable, w_alone, w_named, w_hears, w_ripe, w_room, w_tables⟩
theorem atStart : AtStart classFile x code maxLocals ret World_1 tables_1 room_1 Calls_1 rest_1 Pre_1 launch0 p0 e0 about1 theMethod args0 below0 :=
  ⟨lists_1, trivial, launch0.admits_env _ _ _, launch0.least_env, fairChoices_fair.cas, fairChoices_fair.clock, w_frames, w_args, w_heap, w_applies, trivial, w_rest, w_case⟩
end start1
theorem witness_1 : WitnessClaimed_1 := ⟨start1.p0, start1.e0, start1.about1, start1.theMethod, start1.args0, start1.below0, start1.atStart⟩
end Jvm.Pilot.@@N@@
