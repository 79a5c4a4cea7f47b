import JvmDerived
import JvmDerived.Pilot.@@N@@Statement
import JvmDerived.Pilot.@@N@@Code
set_option linter.unusedVariables false
set_option linter.unusedSimpArgs false
namespace Jvm.Pilot.@@N@@
open Jvm Jvm.ClassFile Sem Op Lib Jvm.Free Jvm.Stand Jvm.LawKit Jvm.RoadKit Bundle Jvm.Pilot.@@N@@.Jvm.D
theorem own_dummy : True := trivial
section Own
variable {p : Program} {l : Launch} {e : Env} {R : Room} {s : State} {m : MethodId} {args : Array Value} {below : List Frame} {meth : Method} {c : Code} {T : State} {locs : List Loc} {cells slots : Nat}
def own_Fin (p : Program) (e : Env) (below : List Frame) (P : Outcome → State → Prop) (U : State) : Prop := ∃ s₂ o, Steps p.tables e below U s₂ ∧ s₂.status = .running ∧ Ended s₂ below o ∧ P o s₂
def own_P (Q : Option Value → Heap → List Loc → Prop) (s : State) (C S : Nat) : Outcome → State → Prop := fun o t => ∃ v L, o = .returned v ∧ Q v t.heap L ∧ FrameEnd s o t L C S
theorem own_go {P : Outcome → State → Prop} {U U' : State} (k : own_Fin p e below P U') (h : ∀ t, Steps p.tables e below U' t → Steps p.tables e below U t) : own_Fin p e below P U := by
  obtain ⟨t, o, h1, r⟩ := k; exact ⟨t, o, h t h1, r⟩
theorem own_cut {P : Outcome → State → Prop} {U : State} (A : Prop) (k : A) (h : A → own_Fin p e below P U) : own_Fin p e below P U := h k
theorem own_retN (X : Stand p l e R s m args below meth c T locs cells slots) (hx : p.tables.exec = Jvm.exec) {pc : Nat} {Ls : Array Slot} {z : Int32} {t : FieldType} {rest : List Value} (hret : meth.sig.returnType = some t) (ht : t = .boolean ∨ t = .byte ∨ t = .char ∨ t = .short)
    (hd : decode c.code pc = .ok (.ireturn, 1)) (hlk : meth.locks = false) {Q : Option Value → Heap → List Loc → Prop} {C S : Nat} (hQ : Q (some (.int (nar t z))) T.heap locs) (hC : cells ≤ C) (hS : slots ≤ S) : own_Fin p e below (own_P Q s C S) (T.setTop (mkF m pc Ls (.int z :: rest))) := by
  obtain ⟨fs, hr, hrun, hended, hW, hsame⟩ := X.leave (v := some (.int (nar t z))) (fun h => by rw [hret] at h; cases h) hlk
  exact ⟨_, _, retN X hx hret ht hd hr, hrun, hended, _, _, rfl, hQ, ⟨_, rfl⟩, hW, hsame.mono hC hS⟩
theorem own_retO (X : Stand p l e R s m args below meth c T locs cells slots) (hx : p.tables.exec = Jvm.exec) {pc : Nat} {Ls : Array Slot} {w : Value} {t : FieldType} {i : Instr} {rest : List Value} (hret : meth.sig.returnType = some t) (hn : narrow t w = w)
    (hi : (i = .ireturn ∧ (t = .int ∨ t = .boolean ∨ t = .byte ∨ t = .char ∨ t = .short) ∧ ∃ z, w = .int z) ∨ (i = .lreturn ∧ t = .long ∧ ∃ z, w = .long z) ∨ (i = .dreturn ∧ t = .double ∧ ∃ z, w = .double z) ∨ (i = .freturn ∧ t = .float ∧ ∃ z, w = .float z) ∨ (i = .areturn ∧ t.isReference = true ∧ w.isRef = true))
    (hd : decode c.code pc = .ok (i, 1)) (hlk : meth.locks = false) {Q : Option Value → Heap → List Loc → Prop} {C S : Nat} (hQ : Q (some w) T.heap locs) (hC : cells ≤ C) (hS : slots ≤ S) : own_Fin p e below (own_P Q s C S) (T.setTop (mkF m pc Ls (w :: rest))) := by
  obtain ⟨fs, hr, hrun, hended, hW, hsame⟩ := X.leave (v := some w) (fun h => by rw [hret] at h; cases h) hlk
  exact ⟨_, _, retOut X hx hret hn hi hd hr, hrun, hended, _, _, rfl, hQ, ⟨_, rfl⟩, hW, hsame.mono hC hS⟩
theorem own_retV (X : Stand p l e R s m args below meth c T locs cells slots) (hx : p.tables.exec = Jvm.exec) {pc : Nat} {Ls : Array Slot} (hret : meth.sig.returnType = none)
    (hd : decode c.code pc = .ok (.return_, 1)) (hlk : meth.locks = false) {Q : Option Value → Heap → List Loc → Prop} {C S : Nat} (hQ : Q none T.heap locs) (hC : cells ≤ C) (hS : slots ≤ S) : own_Fin p e below (own_P Q s C S) (T.setTop (mkF m pc Ls [])) := by
  obtain ⟨fs, hr, hrun, hended, hW, hsame⟩ := X.leave (v := none) (fun _ => rfl) hlk
  exact ⟨_, _, X.returnOut hx hret hd hr, hrun, hended, _, _, rfl, hQ, ⟨_, rfl⟩, hW, hsame.mono hC hS⟩
theorem own_getR {Z : State} {a0 : Array Value} {h : Heap} (X : Stand p l e R s m args below meth c T locs cells slots) (hx : p.tables.exec = Jvm.exec) (hZ : Z.Warmed39 s.vm) {own O n d : String} {index : Nat} (hown : s.vm.findClass own = some m.cls) (w : (Jvm.Cond.fieldRef own index O n d).before a0 Z = true)
    (eT : T.heap = h) {a : Addr} {v : Value} (F : Fld Z h a O n d v) {g : JFrame} (hg : g.method = m) {rest : List Value} (hs : g.stack = .ref a :: rest) (hd : decode c.code g.pc = .ok (.getfield index, 3)) :
    ∀ target, Steps p.tables e below (T.setTop { g with pc := g.pc + 3, stack := v :: rest }) target → Steps p.tables e below (T.setTop g) target := by
  obtain ⟨cell, cf, k, i, f, h1, h2, h3, h4, -, -, h7⟩ := F
  have hU : Z.Warmed39 T.vm := wtrans hZ X.warmed
  have w0 : (Jvm.Cond.fieldRef own index O n d).before a0 (Z.setVm T.vm) = true := Cond.fieldRef_warmed39 hU w
  have w' : (Jvm.Cond.fieldRef own index O n d).before args T = true := w0
  have hc : T.vm.findClass own = some m.cls := by rw [X.warmed.alike.findClass]; exact hown
  obtain ⟨c', k', i', f', q1, q2⟩ := Cond.fieldRef_spec hc w'
  obtain ⟨k2, hi, -⟩ := State.fieldFound?_setVm (s := Z) hU.alike h2
  have hi' : T.fieldFound? O n d = some (cf, k2, i, f) := hi
  cases q1.symm.trans hi'
  intro target ht
  exact (X.getfieldR hx hg q2 h3 hs (by rw [eT]; exact h1) h4 h7 hd (Steps.refl _)).trans ht
end Own
def Q4 (z : Int32) (h0 : Heap) (n0 : Nat) (v : Option Value) (h : Heap) (L : List Loc) : Prop := v = some (.int z) ∧ Fr n0 L ∧ h = h0
def Q2 (Z : State) (k : ClassId) (vs : List Value) (h0 : Heap) (n0 : Nat) (v : Option Value) (h : Heap) (L : List Loc) : Prop := ∃ b : Addr, v = some (.ref b) ∧ Fr n0 L ∧ Ext h0 h ∧ Arv Z h b k (.object "com/example/throughline/throughline/experiments/FilterProtocol") 5 vs .null
def Q1 (r : Addr) (h0 : Heap) (n0 : Nat) (v : Option Value) (h : Heap) (L : List Loc) : Prop := v = some (.ref r) ∧ Fr n0 L ∧ Ext h0 h
def Q0 (n0 : Nat) (v : Option Value) (h : Heap) (L : List Loc) : Prop := v = some (.int 1) ∧ Fr n0 L
theorem pn_0 : plainFor (⟨"com/example/throughline/throughline/experiments/FilterProtocolOfPinLaw", "law", "(I)Z"⟩ : MethodName) = true := plainFor_of_name (by first | (simp [plainName, overriddenIn]; done) | decide +kernel)
theorem d1_0 : decode prog_42_method_4_code 0 = .ok (.invokestatic 53, 3) := by decide +kernel
theorem d1_3 : decode prog_42_method_4_code 3 = .ok (.astore_n 1, 1) := by decide +kernel
theorem d1_4 : decode prog_42_method_4_code 4 = .ok (.iload_n 0, 1) := by decide +kernel
theorem d1_5 : decode prog_42_method_4_code 5 = .ok (.iconst 1, 1) := by decide +kernel
theorem d1_6 : decode prog_42_method_4_code 6 = .ok (.if_icmp .lt 9, 3) := by decide +kernel
theorem d1_9 : decode prog_42_method_4_code 9 = .ok (.iload_n 0, 1) := by decide +kernel
theorem d1_10 : decode prog_42_method_4_code 10 = .ok (.aload_n 1, 1) := by decide +kernel
theorem d1_11 : decode prog_42_method_4_code 11 = .ok (.arraylength, 1) := by decide +kernel
theorem d1_12 : decode prog_42_method_4_code 12 = .ok (.if_icmp .le 19, 3) := by decide +kernel
theorem d1_15 : decode prog_42_method_4_code 15 = .ok (.new 57, 3) := by decide +kernel
theorem d1_18 : decode prog_42_method_4_code 18 = .ok (.dup, 1) := by decide +kernel
theorem d1_19 : decode prog_42_method_4_code 19 = .ok (.iload_n 0, 1) := by decide +kernel
theorem d1_20 : decode prog_42_method_4_code 20 = .ok (.aload_n 1, 1) := by decide +kernel
theorem d1_21 : decode prog_42_method_4_code 21 = .ok (.arraylength, 1) := by decide +kernel
theorem d1_27 : decode prog_42_method_4_code 27 = .ok (.invokespecial 63, 3) := by decide +kernel
theorem d1_30 : decode prog_42_method_4_code 30 = .ok (.athrow, 1) := by decide +kernel
theorem d1_31 : decode prog_42_method_4_code 31 = .ok (.aload_n 1, 1) := by decide +kernel
theorem d1_32 : decode prog_42_method_4_code 32 = .ok (.iload_n 0, 1) := by decide +kernel
theorem d1_33 : decode prog_42_method_4_code 33 = .ok (.iconst 1, 1) := by decide +kernel
theorem d1_34 : decode prog_42_method_4_code 34 = .ok (.isub, 1) := by decide +kernel
theorem d1_35 : decode prog_42_method_4_code 35 = .ok (.aaload, 1) := by decide +kernel
theorem d1_36 : decode prog_42_method_4_code 36 = .ok (.areturn, 1) := by decide +kernel
theorem pn_1 : plainFor (⟨"com/example/throughline/throughline/experiments/FilterProtocol", "of", "(I)Lcom/example/throughline/throughline/experiments/FilterProtocol;"⟩ : MethodName) = true := plainFor_of_name (by first | (simp [plainName, overriddenIn]; done) | decide +kernel)
theorem d2_0 : decode prog_42_method_1_code 0 = .ok (.getstatic 21, 3) := by decide +kernel
theorem d2_3 : decode prog_42_method_1_code 3 = .ok (.invokevirtual 25, 3) := by decide +kernel
theorem d2_6 : decode prog_42_method_1_code 6 = .ok (.checkcast 26, 3) := by decide +kernel
theorem d2_9 : decode prog_42_method_1_code 9 = .ok (.areturn, 1) := by decide +kernel
theorem pn_2 : plainFor (⟨"com/example/throughline/throughline/experiments/FilterProtocol", "values", "()[Lcom/example/throughline/throughline/experiments/FilterProtocol;"⟩ : MethodName) = true := plainFor_of_name (by first | (simp [plainName, overriddenIn]; done) | decide +kernel)
theorem d3_0 : decode prog_42_method_5_code 0 = .ok (.aload_n 0, 1) := by decide +kernel
theorem d3_1 : decode prog_42_method_5_code 1 = .ok (.invokevirtual 66, 3) := by decide +kernel
theorem d3_4 : decode prog_42_method_5_code 4 = .ok (.iconst 1, 1) := by decide +kernel
theorem d3_5 : decode prog_42_method_5_code 5 = .ok (.iadd, 1) := by decide +kernel
theorem d3_6 : decode prog_42_method_5_code 6 = .ok (.ireturn, 1) := by decide +kernel
theorem pn_3 : plainFor (⟨"com/example/throughline/throughline/experiments/FilterProtocol", "number", "()I"⟩ : MethodName) = true := plainFor_of_name (by first | (simp [plainName, overriddenIn]; done) | decide +kernel)
theorem d4_0 : decode jdk_37_method_2_code 0 = .ok (.aload_n 0, 1) := by decide +kernel
theorem d4_1 : decode jdk_37_method_2_code 1 = .ok (.getfield 7, 3) := by decide +kernel
theorem d4_4 : decode jdk_37_method_2_code 4 = .ok (.ireturn, 1) := by decide +kernel
theorem pn_4 : plainFor (⟨"java/lang/Enum", "ordinal", "()I"⟩ : MethodName) = true := plainFor_of_name (by first | (simp [plainName, overriddenIn]; done) | decide +kernel)
theorem own_five (x n : Int32) (hn : n = ((x &&& (2147483647 : Int32)) % (5 : Int32)) + (1 : Int32)) : n = 1 ∨ n = 2 ∨ n = 3 ∨ n = 4 ∨ n = 5 := by
  have a1 := c_mask x 2147483647 31 (by decide) (by decide)
  have a2 := c_irem (x &&& 2147483647) 5 5 rfl
  have a3 := c_iadd ((x &&& 2147483647) % 5) 1
  have a4 := rng32 n
  rw [← hn] at a3
  have e1 : (1 : Int32).toInt = 1 := rfl
  simp only [← Int32.toInt_inj]
  show n.toInt = 1 ∨ n.toInt = 2 ∨ n.toInt = 3 ∨ n.toInt = 4 ∨ n.toInt = 5
  have a5 : (2 ^ 31 : Nat) = 2147483648 := by decide
  rw [a5] at a1
  omega
theorem own_feq {args : Array Value} {s : State} {t : Term} {x : Addr} {C n d : String} {k : Int32} (ht : t.eval args s none [] s = some (.ref x)) (h : (Jvm.Cond.eq (Term.field t C n d) (Term.int k)).value args s none s [] = some true) : Fld s s.heap x C n d (.int k) := by
  have e1 := Cond.eq_int (beq_iff_eq.mpr h) (Term.int_eval k)
  rw [fld_at ht] at e1
  exact Fld.start e1
theorem own_len {args : Array Value} {s : State} {t : Term} {x : Addr} {cl : Cell} {ty : FieldType} {k : Int32} (ht : t.eval args s none [] s = some (.ref x)) (A : Arr s s.heap x cl ty) (h : (Jvm.Cond.eq (Term.length t) (Term.int k)).value args s none s [] = some true) : cl.slots.size < 2 ^ 31 ∧ cl.slots.size.toInt32 = k := by
  have e1 := Cond.eq_int (beq_iff_eq.mpr h) (Term.int_eval k)
  have ha := A.fin (Vm.Alike.refl _)
  have hl : cl.slots.size < 2 ^ 31 := by
    apply Decidable.byContradiction
    intro q
    simp [Term.eval, ht, ha, q] at e1
  rw [len_f ht ha hl] at e1
  exact ⟨hl, by cases e1; rfl⟩
theorem own_el {args : Array Value} {s : State} {t u : Term} {x y : Addr} {cl : Cell} {ty : FieldType} {k : Int32} (ht : t.eval args s none [] s = some (.ref x)) (A : Arr s s.heap x cl ty) (hu : u.eval args s none [] s = some (.ref y)) (h : (Jvm.Cond.eq (Term.elem t (Term.int k)) u).value args s none s [] = some true) : cl.slots[k.toNatClampNeg]? = some (.ref y) := by
  obtain ⟨v, w, e1, e2, k1, k2⟩ := cmp_v (Or.inl h)
  cases hu.symm.trans e2
  have q := (elem_in e1 ht rfl A.1).2
  have r := k2.2
  have := gotT (eq_R e1 e2 r rfl) h
  rw [this] at q
  exact q
theorem own_pd0 : parseMethodDescriptor "()I" = some ⟨[], some .int⟩ := by decide +kernel
theorem own_pd1 : parseMethodDescriptor "()[Lcom/example/throughline/throughline/experiments/FilterProtocol;" = some ⟨[], some (.array (.object "com/example/throughline/throughline/experiments/FilterProtocol"))⟩ := by decide +kernel
theorem own_pd2 : parseMethodDescriptor "(I)Lcom/example/throughline/throughline/experiments/FilterProtocol;" = some ⟨[.int], some (.object "com/example/throughline/throughline/experiments/FilterProtocol")⟩ := by decide +kernel
set_option maxRecDepth 65536 in
set_option maxHeartbeats 40000000 in
theorem rm4 (l : Launch) (Z : State) (a0 : Array Value) (hw : ∀ d ∈ tables_1, d.before a0 Z = true) (ws : List Jvm.Cond) (a1 : Addr) (z : Int32) (h0 : Heap) (n0 : Nat) (Z0 : n0 ≤ h0.size) (O0 : Old Z n0 h0) (F : Fld Z Z.heap a1 "java/lang/Enum" "ordinal" "I" (.int z)) :
    MetFree l (⟨"java/lang/Enum", "ordinal", "()I"⟩ : MethodName) (head1 (Jvm.Cond.code (⟨"java/lang/Enum", "ordinal", "()I"⟩ : MethodName) jdk_37_method_2_code 1 (some .int) :: ws) ({ frames := 0, cells := 0, slots := 0, locals := 0 } : Room)) (fun a U => a = #[(.ref a1)] ∧ Z.Warmed39 U.vm ∧ U.heap = h0) (fun _ _ _ _ _ => True) (fun _ U o U' => ∃ v L, o = .returned v ∧ Q4 z h0 n0 v U'.heap L ∧ FrameEnd U o U' L ({ frames := 0, cells := 0, slots := 0, locals := 0 } : Room).cells ({ frames := 0, cells := 0, slots := 0, locals := 0 } : Room).slots) := by
  refine MetFree.of_bodySF pn_4 hisR ?_
  intro p e s m args below meth c s₁ Bd hml0 hP hK
  obtain ⟨rfl, hZ, hh⟩ := hP
  have hx := Bd.exec
  have hby := Bd.bytes
  have hml : c.maxLocals = 1 := hml0
  have hown : s.vm.findClass "java/lang/Enum" = some m.cls := findClass_of_methodNamed Bd.named
  have hnm := (name_of_methodNamed Bd.named Bd.method).1
  have hlk : meth.locks = false := BodyLoose.notSynchronized Bd
  have X0 : Stand p l e ({ frames := 0, cells := 0, slots := 0, locals := 0 } : Room) s m #[(.ref a1)] below meth c s₁ [] 0 0 := Stand.of_body Bd
  have e0 : s₁.heap = h0 := by rw [← hh, Bd.state]; rfl
  have N0 := Fr.nil n0
  show own_Fin p e below (own_P (Q4 z h0 n0) s ({ frames := 0, cells := 0, slots := 0, locals := 0 } : Room).cells ({ frames := 0, cells := 0, slots := 0, locals := 0 } : Room).slots) (s₁.setTop (entryFrame m #[(.ref a1)] 1))
  rw [show entryFrame m #[(.ref a1)] 1 = mkF m 0 #[.val (.ref a1)] [] from by first | (simp [entryFrame, mkF, argsToLocals, Value.category]; done) | rfl]
  refine own_go ?_ (fun tq kt => XS.aloadN X0.here hx rfl (hb hby d4_0) rfl rfl kt)
  show own_Fin _ _ _ _ (s₁.setTop (mkF m 1 #[.val (.ref a1)] [(.ref a1)]))
  obtain ⟨T1, X1, e1, st1⟩ := getF X0 hx hZ hown (host := "") (Or.inl (hw _ (List.mem_of_getElem? (i := 38) rfl))) Via.refl e0 (F.ext O0.2) (g := (mkF m 1 #[.val (.ref a1)] [(.ref a1)])) rfl rfl (hb hby d4_1)
  refine own_go ?_ (fun tq kt => st1 _ kt)
  show own_Fin _ _ _ _ (T1.setTop (mkF m 4 #[.val (.ref a1)] [(.int z)]))
  refine own_retO X1 hx (t := .int) Bd.returns rfl (Or.inl ⟨rfl, Or.inl rfl, _, rfl⟩) (hb hby d4_4) hlk ?_ (by decide) (by decide)
  show Q4 z h0 n0 _ T1.heap _
  rw [e1]
  exact ⟨rfl, N0, rfl⟩
set_option maxRecDepth 65536 in
set_option maxHeartbeats 40000000 in
theorem rm3 (l : Launch) (Z : State) (a0 : Array Value) (hw : ∀ d ∈ tables_1, d.before a0 Z = true) (ws : List Jvm.Cond) (a1 : Addr) (z : Int32) (r : Int32) (h0 : Heap) (n0 : Nat) (Z0 : n0 ≤ h0.size) (O0 : Old Z n0 h0) (E : Exa Z Z.heap a1 "com/example/throughline/throughline/experiments/FilterProtocol") (F : Fld Z Z.heap a1 "java/lang/Enum" "ordinal" "I" (.int z)) (hr : z + 1 = r) :
    MetFree l (⟨"com/example/throughline/throughline/experiments/FilterProtocol", "number", "()I"⟩ : MethodName) (head1 (Jvm.Cond.code (⟨"com/example/throughline/throughline/experiments/FilterProtocol", "number", "()I"⟩ : MethodName) prog_42_method_5_code 1 (some .int) :: ws) ({ frames := 1, cells := 0, slots := 0, locals := 12 } : Room)) (fun a U => a = #[(.ref a1)] ∧ Z.Warmed39 U.vm ∧ U.heap = h0) (fun _ _ _ _ _ => True) (fun _ U o U' => ∃ v L, o = .returned v ∧ Q4 r h0 n0 v U'.heap L ∧ FrameEnd U o U' L ({ frames := 1, cells := 0, slots := 0, locals := 12 } : Room).cells ({ frames := 1, cells := 0, slots := 0, locals := 12 } : Room).slots) := by
  refine MetFree.of_bodySF pn_3 hisR ?_
  intro p e s m args below meth c s₁ Bd hml0 hP hK
  obtain ⟨rfl, hZ, hh⟩ := hP
  have hx := Bd.exec
  have hby := Bd.bytes
  have hml : c.maxLocals = 1 := hml0
  have hown : s.vm.findClass "com/example/throughline/throughline/experiments/FilterProtocol" = some m.cls := findClass_of_methodNamed Bd.named
  have hnm := (name_of_methodNamed Bd.named Bd.method).1
  have hlk : meth.locks = false := BodyLoose.notSynchronized Bd
  have X0 : Stand p l e ({ frames := 1, cells := 0, slots := 0, locals := 12 } : Room) s m #[(.ref a1)] below meth c s₁ [] 0 0 := Stand.of_body Bd
  have e0 : s₁.heap = h0 := by rw [← hh, Bd.state]; rfl
  have N0 := Fr.nil n0
  show own_Fin p e below (own_P (Q4 r h0 n0) s ({ frames := 1, cells := 0, slots := 0, locals := 12 } : Room).cells ({ frames := 1, cells := 0, slots := 0, locals := 12 } : Room).slots) (s₁.setTop (entryFrame m #[(.ref a1)] 1))
  rw [show entryFrame m #[(.ref a1)] 1 = mkF m 0 #[.val (.ref a1)] [] from by first | (simp [entryFrame, mkF, argsToLocals, Value.category]; done) | rfl]
  refine own_go ?_ (fun tq kt => XS.aloadN X0.here hx rfl (hb hby d3_0) rfl rfl kt)
  show own_Fin _ _ _ _ (s₁.setTop (mkF m 1 #[.val (.ref a1)] [(.ref a1)]))
  obtain ⟨cq2, kq2, q2a, q2b, q2c⟩ := isOf hZ e0 (E.ext O0.2)
  obtain ⟨_, _, ⟨T2, L2, k2, n2⟩, -, X2, ⟨Lc2, hQ2, l2, y2, z2⟩, st2⟩ := X0.virtualBackUp hx (x := (⟨"com/example/throughline/throughline/experiments/FilterProtocol", "ordinal", "()I"⟩ : MethodName)) (y := (⟨"java/lang/Enum", "ordinal", "()I"⟩ : MethodName)) (owner := "java/lang/Enum") hown (mvT hZ (hw _ (List.mem_of_getElem? (i := 31) rfl))) (mvT hZ (hw _ (List.mem_of_getElem? (i := 32) rfl))) (mvT hZ (hw _ (List.mem_of_getElem? (i := 33) rfl))) (by decide) (mvT hZ (hw _ (List.mem_of_getElem? (i := 35) rfl))) (mvT hZ (hw _ (List.mem_of_getElem? (i := 34) rfl))) (backOf (W := 0) (rm4 l Z a0 hw [] a1 z h0 n0 Z0 O0 F) hZ (hw _ (List.mem_of_getElem? (i := 37) rfl)) (hw _ (List.mem_of_getElem? (i := 36) rfl)) (by decide) (by decide)) q2a q2c (g := (mkF m 1 #[.val (.ref a1)] [(.ref a1)])) rfl (by rw [hml]; rfl) (Steps.refl _) (argsL := []) (rest := []) (lenOf own_pd0 rfl) rfl (by show 2 * 0 + _ ≤ _; exact Nat.le_of_eq rfl) (hb hby d3_1) (fun _ _ => ⟨rfl, e0, (by decide : 0 + 0 ≤ _), (by decide : 0 + 0 ≤ _)⟩)
  dsimp only [Pt.U, Pt.locs, Pt.cells, Pt.slots] at X2 l2 y2 z2 st2 hQ2
  subst l2 y2 z2
  obtain ⟨rfl, N2q, e2⟩ := hQ2
  have N2 := Fr.app N0 N2q
  refine own_go ?_ (fun tq kt => st2.trans kt)
  show own_Fin _ _ _ _ (T2.setTop (mkF m 4 #[.val (.ref a1)] [(.int z)]))
  refine own_go ?_ (fun tq kt => XS.iconst X2.here hx rfl (hb hby d3_4) kt)
  show own_Fin _ _ _ _ (T2.setTop (mkF m 5 #[.val (.ref a1)] [(.int (1 : Int32)), (.int z)]))
  refine own_go ?_ (fun tq kt => XS.iadd X2.here hx rfl (hb hby d3_5) rfl kt)
  show own_Fin _ _ _ _ (T2.setTop (mkF m 6 #[.val (.ref a1)] [(.int (z + (1 : Int32)))]))
  refine own_retO X2 hx (t := .int) Bd.returns rfl (Or.inl ⟨rfl, Or.inl rfl, _, rfl⟩) (hb hby d3_6) hlk ?_ (by decide) (by decide)
  show Q4 r h0 n0 _ T2.heap _
  rw [e2]
  exact ⟨by rw [hr], N2, rfl⟩
set_option maxRecDepth 65536 in
set_option maxHeartbeats 40000000 in
theorem rm2 (l : Launch) (Z : State) (a0 : Array Value) (hw : ∀ d ∈ tables_1, d.before a0 Z = true) (ws : List Jvm.Cond)  (va : Addr) (k : ClassId) (vs : List Value) (h0 : Heap) (n0 : Nat) (Z0 : n0 ≤ h0.size) (O0 : Old Z n0 h0) (SV : Sta Z Z.heap "com/example/throughline/throughline/experiments/FilterProtocol" "$VALUES" "[Lcom/example/throughline/throughline/experiments/FilterProtocol;" (.ref va)) (AV : Arv Z Z.heap va k (.object "com/example/throughline/throughline/experiments/FilterProtocol") 5 vs .null) (EV : Exa Z Z.heap va "[Lcom/example/throughline/throughline/experiments/FilterProtocol;") :
    MetFree l (⟨"com/example/throughline/throughline/experiments/FilterProtocol", "values", "()[Lcom/example/throughline/throughline/experiments/FilterProtocol;"⟩ : MethodName) (head1 (Jvm.Cond.code (⟨"com/example/throughline/throughline/experiments/FilterProtocol", "values", "()[Lcom/example/throughline/throughline/experiments/FilterProtocol;"⟩ : MethodName) prog_42_method_1_code 0 (some (.array (.object "com/example/throughline/throughline/experiments/FilterProtocol"))) :: ws) ({ frames := 1, cells := 1, slots := 5, locals := 14 } : Room)) (fun a U => a = #[] ∧ Z.Warmed39 U.vm ∧ U.heap = h0) (fun _ _ _ _ _ => True) (fun _ U o U' => ∃ v L, o = .returned v ∧ Q2 Z k vs h0 n0 v U'.heap L ∧ FrameEnd U o U' L ({ frames := 1, cells := 1, slots := 5, locals := 14 } : Room).cells ({ frames := 1, cells := 1, slots := 5, locals := 14 } : Room).slots) := by
  refine MetFree.of_bodySF pn_2 hisR ?_
  intro p e s m args below meth c s₁ Bd hml0 hP hK
  obtain ⟨rfl, hZ, hh⟩ := hP
  have hx := Bd.exec
  have hby := Bd.bytes
  have hml : c.maxLocals = 0 := hml0
  have hown : s.vm.findClass "com/example/throughline/throughline/experiments/FilterProtocol" = some m.cls := findClass_of_methodNamed Bd.named
  have hnm := (name_of_methodNamed Bd.named Bd.method).1
  have hlk : meth.locks = false := BodyLoose.notSynchronized Bd
  have X0 : Stand p l e ({ frames := 1, cells := 1, slots := 5, locals := 14 } : Room) s m #[] below meth c s₁ [] 0 0 := Stand.of_body Bd
  have e0 : s₁.heap = h0 := by rw [← hh, Bd.state]; rfl
  have N0 := Fr.nil n0
  show own_Fin p e below (own_P (Q2 Z k vs h0 n0) s ({ frames := 1, cells := 1, slots := 5, locals := 14 } : Room).cells ({ frames := 1, cells := 1, slots := 5, locals := 14 } : Room).slots) (s₁.setTop (entryFrame m #[] 0))
  rw [show entryFrame m #[] 0 = mkF m 0 #[] [] from by first | (simp [entryFrame, mkF, argsToLocals, Value.category]; done) | rfl]
  obtain ⟨T3, X3, e3, st3⟩ := getS2 X0 hx hZ hown (host := "") (Or.inl (hw _ (List.mem_of_getElem? (i := 10) rfl))) Via.refl e0 (SV.ext O0.2) (g := (mkF m 0 #[] [])) rfl (hb hby d2_0)
  refine own_go ?_ (fun tq kt => st3 _ kt)
  show own_Fin _ _ _ _ (T3.setTop (mkF m 3 #[] [(.ref va)]))
  obtain ⟨cl, Ar, q1, S1, M1, H1, G1⟩ := (AV.ext O0.2)
  obtain ⟨T4, h4, X4, e4, E4, A4, B4, st4⟩ := cloneA X3 hx hZ hown (hw _ (List.mem_of_getElem? (i := 12) rfl)) (hw _ (List.mem_of_getElem? (i := 13) rfl)) (hw _ (List.mem_of_getElem? (i := 17) rfl)) (hw _ (List.mem_of_getElem? (i := 15) rfl)) (hw _ (List.mem_of_getElem? (i := 16) rfl)) (hw _ (List.mem_of_getElem? (i := 18) rfl)) e3 Ar (EV.ext O0.2) (fitC_of Ar fun i hi v hv => by have q := H1 i hi; rw [hv] at q; cases q; exact G1 i hi) (g := (mkF m 3 #[] [(.ref va)])) rfl (by rw [hml]; rfl) rfl (hb hby d2_3) (by decide) (W := 0) (cap := 5) (by show 2 * 0 + _ ≤ _; exact Nat.le_of_eq rfl) (by decide) (by rw [S1]; decide) (by decide) (by decide)
  obtain ⟨b4, g4⟩ : ∃ z, z = h0.size := ⟨_, rfl⟩
  rw [← g4] at A4 B4 st4
  have zs5 := Nat.le_trans Z0 E4.1
  have od5 := O0.ext E4
  have V4 : Arv Z h4 b4 k (.object "com/example/throughline/throughline/experiments/FilterProtocol") 5 vs .null := ⟨_, A4, q1, S1, M1, H1, G1⟩
  refine own_go ?_ (fun tq kt => st4 _ kt)
  show own_Fin _ _ _ _ (T4.setTop (mkF m 6 #[] [(.ref b4)]))
  obtain ⟨T6, X6, e6, st6⟩ := castY X4 hx hZ hown (hw _ (List.mem_of_getElem? (i := 24) rfl)) e4 (Ins.self B4) (g := (mkF m 6 #[] [(.ref b4)])) rfl rfl (hb hby d2_6)
  refine own_go ?_ (fun tq kt => st6 _ kt)
  show own_Fin _ _ _ _ (T6.setTop (mkF m 9 #[] [(.ref b4)]))
  refine own_retO X6 hx (t := (.array (.object "com/example/throughline/throughline/experiments/FilterProtocol"))) Bd.returns rfl (Or.inr (Or.inr (Or.inr (Or.inr ⟨rfl, rfl, rfl⟩)))) (hb hby d2_9) hlk ?_ (by decide) (by decide)
  show Q2 Z k vs h0 n0 _ T6.heap _
  rw [e6]
  exact ⟨_, rfl, N0, E4, V4⟩
set_option maxRecDepth 65536 in
set_option maxHeartbeats 40000000 in
theorem rm1 (l : Launch) (Z : State) (a0 : Array Value) (hw : ∀ d ∈ tables_1, d.before a0 Z = true) (ws : List Jvm.Cond) (n : Int32) (va : Addr) (k : ClassId) (vs : List Value) (r : Addr) (h0 : Heap) (n0 : Nat) (Z0 : n0 ≤ h0.size) (O0 : Old Z n0 h0) (SV : Sta Z Z.heap "com/example/throughline/throughline/experiments/FilterProtocol" "$VALUES" "[Lcom/example/throughline/throughline/experiments/FilterProtocol;" (.ref va)) (AV : Arv Z Z.heap va k (.object "com/example/throughline/throughline/experiments/FilterProtocol") 5 vs .null) (EV : Exa Z Z.heap va "[Lcom/example/throughline/throughline/experiments/FilterProtocol;") (hn1 : ¬ n < (1 : Int32)) (hn2 : ¬ (5 : Int32) < n) (hj : ¬ (n - (1 : Int32)) < 0 ∧ (n - (1 : Int32)) < (5 : Int32)) (hat : vs.getD (n - (1 : Int32)).toNatClampNeg .null = .ref r) :
    MetFree l (⟨"com/example/throughline/throughline/experiments/FilterProtocol", "of", "(I)Lcom/example/throughline/throughline/experiments/FilterProtocol;"⟩ : MethodName) (head1 (Jvm.Cond.code (⟨"com/example/throughline/throughline/experiments/FilterProtocol", "of", "(I)Lcom/example/throughline/throughline/experiments/FilterProtocol;"⟩ : MethodName) prog_42_method_4_code 2 (some (.object "com/example/throughline/throughline/experiments/FilterProtocol")) :: ws) ({ frames := 2, cells := 1, slots := 5, locals := 25 } : Room)) (fun a U => a = #[(.int n)] ∧ Z.Warmed39 U.vm ∧ U.heap = h0) (fun _ _ _ _ _ => True) (fun _ U o U' => ∃ v L, o = .returned v ∧ Q1 r h0 n0 v U'.heap L ∧ FrameEnd U o U' L ({ frames := 2, cells := 1, slots := 5, locals := 25 } : Room).cells ({ frames := 2, cells := 1, slots := 5, locals := 25 } : Room).slots) := by
  refine MetFree.of_bodySF pn_1 hisR ?_
  intro p e s m args below meth c s₁ Bd hml0 hP hK
  obtain ⟨rfl, hZ, hh⟩ := hP
  have hx := Bd.exec
  have hby := Bd.bytes
  have hml : c.maxLocals = 2 := hml0
  have hown : s.vm.findClass "com/example/throughline/throughline/experiments/FilterProtocol" = some m.cls := findClass_of_methodNamed Bd.named
  have hnm := (name_of_methodNamed Bd.named Bd.method).1
  have hlk : meth.locks = false := BodyLoose.notSynchronized Bd
  have X0 : Stand p l e ({ frames := 2, cells := 1, slots := 5, locals := 25 } : Room) s m #[(.int n)] below meth c s₁ [] 0 0 := Stand.of_body Bd
  have e0 : s₁.heap = h0 := by rw [← hh, Bd.state]; rfl
  have N0 := Fr.nil n0
  show own_Fin p e below (own_P (Q1 r h0 n0) s ({ frames := 2, cells := 1, slots := 5, locals := 25 } : Room).cells ({ frames := 2, cells := 1, slots := 5, locals := 25 } : Room).slots) (s₁.setTop (entryFrame m #[(.int n)] 2))
  rw [show entryFrame m #[(.int n)] 2 = mkF m 0 #[.val (.int n), .unset] [] from by first | (simp [entryFrame, mkF, argsToLocals, Value.category]; done) | rfl]
  obtain ⟨_, _, ⟨T7, L7, k7, n7⟩, -, X7, ⟨Lc7, hQ7, l7, y7, z7⟩, st7⟩ := Jvm.LawKit.callS X0 hx (y := (⟨"com/example/throughline/throughline/experiments/FilterProtocol", "values", "()[Lcom/example/throughline/throughline/experiments/FilterProtocol;"⟩ : MethodName)) hown (mvT hZ (hw _ (List.mem_of_getElem? (i := 7) rfl))) (mvT hZ (hw _ (List.mem_of_getElem? (i := 8) rfl))) (mvT hZ (hw _ (List.mem_of_getElem? (i := 2) rfl))) (mvT hZ (hw _ (List.mem_of_getElem? (i := 9) rfl))) (by decide) (backOf (W := 0) (rm2 l Z a0 hw [] va k vs h0 n0 Z0 O0 SV AV EV) hZ (hw _ (List.mem_of_getElem? (i := 9) rfl)) (hw _ (List.mem_of_getElem? (i := 2) rfl)) (by decide) (by decide)) (g := (mkF m 0 #[.val (.int n), .unset] [])) rfl (by rw [hml]; rfl) (argsL := []) (rest := []) (lenOf own_pd1 rfl) rfl (by show 2 * 0 + _ ≤ _; exact Nat.le_of_eq rfl) (hb hby d1_0) (fun _ _ => ⟨rfl, e0, (by decide : 0 + 1 ≤ _), (by decide : 0 + 5 ≤ _)⟩)
  dsimp only [Pt.U, Pt.locs, Pt.cells, Pt.slots] at X7 l7 y7 z7 st7 hQ7
  subst l7 y7 z7
  obtain ⟨b7, rfl, N7q, E7, V7⟩ := hQ7
  have N7 := Fr.app N0 N7q
  obtain ⟨h7, e7⟩ : ∃ z, z = T7.heap := ⟨_, rfl⟩
  have e7' := e7.symm
  rw [← e7] at E7 V7
  have zs8 := Nat.le_trans Z0 E7.1
  have od8 := O0.ext E7
  refine own_go ?_ (fun tq kt => st7 _ kt)
  show own_Fin _ _ _ _ (T7.setTop (mkF m 3 #[.val (.int n), .unset] [(.ref b7)]))
  refine own_go ?_ (fun tq kt => XS.astoreN X7.here hx rfl (hb hby d1_3) rfl rfl (l' := #[.val (.int n), .val (.ref b7)]) rfl kt)
  show own_Fin _ _ _ _ (T7.setTop (mkF m 4 #[.val (.int n), .val (.ref b7)] []))
  refine own_go ?_ (fun tq kt => XS.iloadN X7.here hx rfl (hb hby d1_4) rfl kt)
  show own_Fin _ _ _ _ (T7.setTop (mkF m 5 #[.val (.int n), .val (.ref b7)] [(.int n)]))
  refine own_go ?_ (fun tq kt => XS.iconst X7.here hx rfl (hb hby d1_5) kt)
  show own_Fin _ _ _ _ (T7.setTop (mkF m 6 #[.val (.int n), .val (.ref b7)] [(.int (1 : Int32)), (.int n)]))
  refine own_go ?_ (fun tq kt => XS.icmpNo X7.here hx rfl (hb hby d1_6) rfl (flt (hn1 : ¬ (n < (1 : Int32)))).1 kt)
  show own_Fin _ _ _ _ (T7.setTop (mkF m 9 #[.val (.int n), .val (.ref b7)] []))
  refine own_go ?_ (fun tq kt => XS.iloadN X7.here hx rfl (hb hby d1_9) rfl kt)
  show own_Fin _ _ _ _ (T7.setTop (mkF m 10 #[.val (.int n), .val (.ref b7)] [(.int n)]))
  refine own_go ?_ (fun tq kt => XS.aloadN X7.here hx rfl (hb hby d1_10) rfl rfl kt)
  show own_Fin _ _ _ _ (T7.setTop (mkF m 11 #[.val (.int n), .val (.ref b7)] [(.ref b7), (.int n)]))
  obtain ⟨cl9, Ar9, -, S9, M9, -, -⟩ := id V7
  refine own_go ?_ (fun tq kt => X7.arraylength hx (by rw [e7']; exact Ar9.1) (State.isArrayOf_alike hZ.alike Ar9.2.1) (g := (mkF m 11 #[.val (.int n), .val (.ref b7)] [(.ref b7), (.int n)])) rfl rfl (hb hby d1_11) _ (by rw [len_of S9 M9]; exact kt))
  show own_Fin _ _ _ _ (T7.setTop (mkF m 12 #[.val (.int n), .val (.ref b7)] [(.int (5 : Int32)), (.int n)]))
  refine own_go ?_ (fun tq kt => XS.icmpYes X7.here hx rfl (pc0 := 12) (pc' := 31) rfl (hb hby d1_12) rfl (flt (hn2 : ¬ ((5 : Int32) < n))).2.2.2 (by decide) (by decide) kt)
  show own_Fin _ _ _ _ (T7.setTop (mkF m 31 #[.val (.int n), .val (.ref b7)] []))
  refine own_go ?_ (fun tq kt => XS.aloadN X7.here hx rfl (hb hby d1_31) rfl rfl kt)
  show own_Fin _ _ _ _ (T7.setTop (mkF m 32 #[.val (.int n), .val (.ref b7)] [(.ref b7)]))
  refine own_go ?_ (fun tq kt => XS.iloadN X7.here hx rfl (hb hby d1_32) rfl kt)
  show own_Fin _ _ _ _ (T7.setTop (mkF m 33 #[.val (.int n), .val (.ref b7)] [(.int n), (.ref b7)]))
  refine own_go ?_ (fun tq kt => XS.iconst X7.here hx rfl (hb hby d1_33) kt)
  show own_Fin _ _ _ _ (T7.setTop (mkF m 34 #[.val (.int n), .val (.ref b7)] [(.int (1 : Int32)), (.int n), (.ref b7)]))
  refine own_go ?_ (fun tq kt => XS.isub X7.here hx rfl (hb hby d1_34) rfl kt)
  show own_Fin _ _ _ _ (T7.setTop (mkF m 35 #[.val (.int n), .val (.ref b7)] [(.int (n - (1 : Int32))), (.ref b7)]))
  obtain ⟨cl10, Ar10, q10, S10, M10, H10, G10⟩ := id V7
  refine own_go ?_ (fun tq kt => X7.aaload hx (j := (n - (1 : Int32))) (v := (.ref r)) (by rw [e7']; exact Ar10.1) (State.isArrayOf_alike hZ.alike Ar10.2.1) rfl Ar10.2.2 (inb_of S10 hj) (Has.at H10 (inb_of S10 hj) hat) (g := (mkF m 35 #[.val (.int n), .val (.ref b7)] [(.int (n - (1 : Int32))), (.ref b7)])) rfl rfl (hb hby d1_35) _ kt)
  show own_Fin _ _ _ _ (T7.setTop (mkF m 36 #[.val (.int n), .val (.ref b7)] [(.ref r)]))
  refine own_retO X7 hx (t := (.object "com/example/throughline/throughline/experiments/FilterProtocol")) Bd.returns rfl (Or.inr (Or.inr (Or.inr (Or.inr ⟨rfl, rfl, rfl⟩)))) (hb hby d1_36) hlk ?_ (by decide) (by decide)
  show Q1 r h0 n0 _ T7.heap _
  rw [e7']
  exact ⟨rfl, N7, E7⟩
set_option maxRecDepth 65536 in
set_option maxHeartbeats 40000000 in
theorem rm0 (l : Launch) (Z : State) (a0 : Array Value) (hw : ∀ d ∈ tables_1, d.before a0 Z = true) (ws : List Jvm.Cond) (x0 : Int32) (va : Addr) (k : ClassId) (p1 p2 p3 p4 p5 : Addr) (h0 : Heap) (n0 : Nat) (Z0 : n0 ≤ h0.size) (O0 : Old Z n0 h0) (SV : Sta Z Z.heap "com/example/throughline/throughline/experiments/FilterProtocol" "$VALUES" "[Lcom/example/throughline/throughline/experiments/FilterProtocol;" (.ref va)) (AV : Arv Z Z.heap va k (.object "com/example/throughline/throughline/experiments/FilterProtocol") 5 [.ref p1, .ref p2, .ref p3, .ref p4, .ref p5] .null) (EV : Exa Z Z.heap va "[Lcom/example/throughline/throughline/experiments/FilterProtocol;") (S1 : Sta Z Z.heap "com/example/throughline/throughline/experiments/FilterProtocol" "P1" "Lcom/example/throughline/throughline/experiments/FilterProtocol;" (.ref p1)) (S2 : Sta Z Z.heap "com/example/throughline/throughline/experiments/FilterProtocol" "P2" "Lcom/example/throughline/throughline/experiments/FilterProtocol;" (.ref p2)) (S3 : Sta Z Z.heap "com/example/throughline/throughline/experiments/FilterProtocol" "P3" "Lcom/example/throughline/throughline/experiments/FilterProtocol;" (.ref p3)) (S4 : Sta Z Z.heap "com/example/throughline/throughline/experiments/FilterProtocol" "P4" "Lcom/example/throughline/throughline/experiments/FilterProtocol;" (.ref p4)) (S5 : Sta Z Z.heap "com/example/throughline/throughline/experiments/FilterProtocol" "P5" "Lcom/example/throughline/throughline/experiments/FilterProtocol;" (.ref p5)) (E1 : Exa Z Z.heap p1 "com/example/throughline/throughline/experiments/FilterProtocol") (E2 : Exa Z Z.heap p2 "com/example/throughline/throughline/experiments/FilterProtocol") (E3 : Exa Z Z.heap p3 "com/example/throughline/throughline/experiments/FilterProtocol") (E4 : Exa Z Z.heap p4 "com/example/throughline/throughline/experiments/FilterProtocol") (E5 : Exa Z Z.heap p5 "com/example/throughline/throughline/experiments/FilterProtocol") (F1 : Fld Z Z.heap p1 "java/lang/Enum" "ordinal" "I" (.int 0)) (F2 : Fld Z Z.heap p2 "java/lang/Enum" "ordinal" "I" (.int 1)) (F3 : Fld Z Z.heap p3 "java/lang/Enum" "ordinal" "I" (.int 2)) (F4 : Fld Z Z.heap p4 "java/lang/Enum" "ordinal" "I" (.int 3)) (F5 : Fld Z Z.heap p5 "java/lang/Enum" "ordinal" "I" (.int 4)) :
    MetFree l x (head1 (Jvm.Cond.code x code maxLocals ret :: ws) room_1) (fun a U => a = #[(.int x0)] ∧ Z.Warmed39 U.vm ∧ U.heap = h0) (fun _ _ _ _ _ => True) (fun _ U o U' => ∃ v L, o = .returned v ∧ Q0 n0 v U'.heap L ∧ FrameEnd U o U' L room_1.cells room_1.slots) := by
  refine MetFree.of_bodySF pn_0 hisR ?_
  intro p e s m args below meth c s₁ Bd hml0 hP hK
  obtain ⟨rfl, hZ, hh⟩ := hP
  have hx := Bd.exec
  have hby := Bd.bytes
  have hml : c.maxLocals = 4 := hml0
  have hown : s.vm.findClass "com/example/throughline/throughline/experiments/FilterProtocolOfPinLaw" = some m.cls := findClass_of_methodNamed Bd.named
  have hnm := (name_of_methodNamed Bd.named Bd.method).1
  have hlk : meth.locks = false := BodyLoose.notSynchronized Bd
  have X0 : Stand p l e room_1 s m #[(.int x0)] below meth c s₁ [] 0 0 := Stand.of_body Bd
  have e0 : s₁.heap = h0 := by rw [← hh, Bd.state]; rfl
  have N0 := Fr.nil n0
  show own_Fin p e below (own_P (Q0 n0) s room_1.cells room_1.slots) (s₁.setTop (entryFrame m #[(.int x0)] maxLocals))
  rw [show entryFrame m #[(.int x0)] maxLocals = mkF m 0 #[.val (.int x0), .unset, .unset, .unset] [] from by first | (simp [entryFrame, mkF, argsToLocals, Value.category, maxLocals]; done) | rfl]
  refine own_go ?_ (fun tq kt => XS.iloadN X0.here hx rfl (hb hby at_0) rfl kt)
  show own_Fin _ _ _ _ (s₁.setTop (mkF m 1 #[.val (.int x0), .unset, .unset, .unset] [(.int x0)]))
  refine own_go ?_ (fun tq kt => X0.ldcInt hx hown (mvT hZ (hw _ (List.mem_of_getElem? (i := 0) rfl))) (g := (mkF m 1 #[.val (.int x0), .unset, .unset, .unset] [(.int x0)])) rfl (hb hby at_1) _ kt)
  show own_Fin _ _ _ _ (s₁.setTop (mkF m 3 #[.val (.int x0), .unset, .unset, .unset] [(.int (2147483647 : Int32)), (.int x0)]))
  refine own_go ?_ (fun tq kt => XS.iand X0.here hx rfl (hb hby at_3) rfl kt)
  show own_Fin _ _ _ _ (s₁.setTop (mkF m 4 #[.val (.int x0), .unset, .unset, .unset] [(.int (x0 &&& (2147483647 : Int32)))]))
  refine own_go ?_ (fun tq kt => XS.iconst X0.here hx rfl (hb hby at_4) kt)
  show own_Fin _ _ _ _ (s₁.setTop (mkF m 5 #[.val (.int x0), .unset, .unset, .unset] [(.int (5 : Int32)), (.int (x0 &&& (2147483647 : Int32)))]))
  refine own_go ?_ (fun tq kt => iremM X0 hx rfl (hb hby at_5) rfl (by decide) kt)
  show own_Fin _ _ _ _ (s₁.setTop (mkF m 6 #[.val (.int x0), .unset, .unset, .unset] [(.int ((x0 &&& (2147483647 : Int32)) % (5 : Int32)))]))
  refine own_go ?_ (fun tq kt => XS.iconst X0.here hx rfl (hb hby at_6) kt)
  show own_Fin _ _ _ _ (s₁.setTop (mkF m 7 #[.val (.int x0), .unset, .unset, .unset] [(.int (1 : Int32)), (.int ((x0 &&& (2147483647 : Int32)) % (5 : Int32)))]))
  refine own_go ?_ (fun tq kt => XS.iadd X0.here hx rfl (hb hby at_7) rfl kt)
  show own_Fin _ _ _ _ (s₁.setTop (mkF m 8 #[.val (.int x0), .unset, .unset, .unset] [(.int (((x0 &&& (2147483647 : Int32)) % (5 : Int32)) + (1 : Int32)))]))
  refine own_go ?_ (fun tq kt => XS.istoreN X0.here hx rfl (hb hby at_8) rfl (l' := #[.val (.int x0), .val (.int (((x0 &&& (2147483647 : Int32)) % (5 : Int32)) + (1 : Int32))), .unset, .unset]) rfl kt)
  show own_Fin _ _ _ _ (s₁.setTop (mkF m 9 #[.val (.int x0), .val (.int (((x0 &&& (2147483647 : Int32)) % (5 : Int32)) + (1 : Int32))), .unset, .unset] []))
  obtain ⟨n, hn⟩ : ∃ z, z = (((x0 &&& (2147483647 : Int32)) % (5 : Int32)) + (1 : Int32)) := ⟨_, rfl⟩
  rw [← hn]
  rcases own_five _ _ hn with q | q | q | q | q <;> clear hn <;> subst q
  · show own_Fin _ _ _ _ (s₁.setTop (mkF m 9 #[.val (.int x0), .val (.int (1 : Int32)), .unset, .unset] []))
    refine own_go ?_ (fun tq kt => XS.iloadN X0.here hx rfl (hb hby at_9) rfl kt)
    show own_Fin _ _ _ _ (s₁.setTop (mkF m 10 #[.val (.int x0), .val (.int (1 : Int32)), .unset, .unset] [(.int (1 : Int32))]))
    refine own_go ?_ (fun tq kt => XS.iconst X0.here hx rfl (hb hby at_10) kt)
    show own_Fin _ _ _ _ (s₁.setTop (mkF m 11 #[.val (.int x0), .val (.int (1 : Int32)), .unset, .unset] [(.int (1 : Int32)), (.int (1 : Int32))]))
    refine own_go ?_ (fun tq kt => XS.icmpNo X0.here hx rfl (hb hby at_11) rfl (teq (rfl : (1 : Int32) = (1 : Int32))).2 kt)
    show own_Fin _ _ _ _ (s₁.setTop (mkF m 14 #[.val (.int x0), .val (.int (1 : Int32)), .unset, .unset] []))
    obtain ⟨T11, X11, e11, st11⟩ := getS2 X0 hx hZ hown (host := "") (Or.inl (hw _ (List.mem_of_getElem? (i := 1) rfl))) Via.refl e0 (S1.ext O0.2) (g := (mkF m 14 #[.val (.int x0), .val (.int (1 : Int32)), .unset, .unset] [])) rfl (hb hby at_14)
    refine own_go ?_ (fun tq kt => st11 _ kt)
    show own_Fin _ _ _ _ (T11.setTop (mkF m 17 #[.val (.int x0), .val (.int (1 : Int32)), .unset, .unset] [(.ref p1)]))
    refine own_go ?_ (fun tq kt => XS.astoreN X11.here hx rfl (hb hby at_17) rfl rfl (l' := #[.val (.int x0), .val (.int (1 : Int32)), .val (.ref p1), .unset]) rfl kt)
    show own_Fin _ _ _ _ (T11.setTop (mkF m 18 #[.val (.int x0), .val (.int (1 : Int32)), .val (.ref p1), .unset] []))
    refine own_go ?_ (fun tq kt => XS.goto X11.here hx rfl (pc0 := 18) (pc' := 61) rfl (hb hby at_18) (by decide) (by decide) kt)
    show own_Fin _ _ _ _ (T11.setTop (mkF m 61 #[.val (.int x0), .val (.int (1 : Int32)), .val (.ref p1), .unset] []))
    refine own_go ?_ (fun tq kt => XS.iloadN X11.here hx rfl (hb hby at_61) rfl kt)
    show own_Fin _ _ _ _ (T11.setTop (mkF m 62 #[.val (.int x0), .val (.int (1 : Int32)), .val (.ref p1), .unset] [(.int (1 : Int32))]))
    obtain ⟨_, _, ⟨T12, L12, k12, n12⟩, -, X12, ⟨Lc12, hQ12, l12, y12, z12⟩, st12⟩ := Jvm.LawKit.callS X11 hx (y := (⟨"com/example/throughline/throughline/experiments/FilterProtocol", "of", "(I)Lcom/example/throughline/throughline/experiments/FilterProtocol;"⟩ : MethodName)) hown (mvT hZ (hw _ (List.mem_of_getElem? (i := 4) rfl))) (mvT hZ (hw _ (List.mem_of_getElem? (i := 5) rfl))) (mvT hZ (hw _ (List.mem_of_getElem? (i := 2) rfl))) (mvT hZ (hw _ (List.mem_of_getElem? (i := 6) rfl))) (by decide) (backOf (W := 0) (rm1 l Z a0 hw [] (1 : Int32) va k [.ref p1, .ref p2, .ref p3, .ref p4, .ref p5] p1 h0 n0 Z0 O0 SV AV EV (by decide) (by decide) ⟨by decide, by decide⟩ rfl) hZ (hw _ (List.mem_of_getElem? (i := 6) rfl)) (hw _ (List.mem_of_getElem? (i := 2) rfl)) (by decide) (by decide)) (g := (mkF m 62 #[.val (.int x0), .val (.int (1 : Int32)), .val (.ref p1), .unset] [(.int (1 : Int32))])) rfl (by rw [hml]; rfl) (argsL := [(.int (1 : Int32))]) (rest := []) (lenOf own_pd2 rfl) rfl (by show 2 * 0 + _ ≤ _; exact Nat.le_of_eq rfl) (hb hby at_62) (fun _ _ => ⟨rfl, e11, (by decide : 0 + 1 ≤ _), (by decide : 0 + 5 ≤ _)⟩)
    dsimp only [Pt.U, Pt.locs, Pt.cells, Pt.slots] at X12 l12 y12 z12 st12 hQ12
    subst l12 y12 z12
    obtain ⟨rfl, N12q, E12⟩ := hQ12
    have N12 := Fr.app N0 N12q
    obtain ⟨h12, e12⟩ : ∃ z, z = T12.heap := ⟨_, rfl⟩
    have e12' := e12.symm
    rw [← e12] at E12
    have zs13 := Nat.le_trans Z0 E12.1
    have od13 := O0.ext E12
    refine own_go ?_ (fun tq kt => st12 _ kt)
    show own_Fin _ _ _ _ (T12.setTop (mkF m 65 #[.val (.int x0), .val (.int (1 : Int32)), .val (.ref p1), .unset] [(.ref p1)]))
    refine own_go ?_ (fun tq kt => XS.astoreN X12.here hx rfl (hb hby at_65) rfl rfl (l' := #[.val (.int x0), .val (.int (1 : Int32)), .val (.ref p1), .val (.ref p1)]) rfl kt)
    show own_Fin _ _ _ _ (T12.setTop (mkF m 66 #[.val (.int x0), .val (.int (1 : Int32)), .val (.ref p1), .val (.ref p1)] []))
    refine own_go ?_ (fun tq kt => XS.aloadN X12.here hx rfl (hb hby at_66) rfl rfl kt)
    show own_Fin _ _ _ _ (T12.setTop (mkF m 67 #[.val (.int x0), .val (.int (1 : Int32)), .val (.ref p1), .val (.ref p1)] [(.ref p1)]))
    refine own_go ?_ (fun tq kt => XS.aloadN X12.here hx rfl (hb hby at_67) rfl rfl kt)
    show own_Fin _ _ _ _ (T12.setTop (mkF m 68 #[.val (.int x0), .val (.int (1 : Int32)), .val (.ref p1), .val (.ref p1)] [(.ref p1), (.ref p1)]))
    refine own_go ?_ (fun tq kt => Jvm.RoadKit.acmp (g := (mkF m 68 #[.val (.int x0), .val (.int (1 : Int32)), .val (.ref p1), .val (.ref p1)] [(.ref p1), (.ref p1)])) X12 hx rfl rfl rfl (pc0 := 68) (pc' := 71) (same := true) rfl (hb hby at_68) rfl (decide_eq_true rfl) (by decide) (by decide) kt)
    show own_Fin _ _ _ _ (T12.setTop (mkF m 71 #[.val (.int x0), .val (.int (1 : Int32)), .val (.ref p1), .val (.ref p1)] []))
    refine own_go ?_ (fun tq kt => XS.aloadN X12.here hx rfl (hb hby at_71) rfl rfl kt)
    show own_Fin _ _ _ _ (T12.setTop (mkF m 72 #[.val (.int x0), .val (.int (1 : Int32)), .val (.ref p1), .val (.ref p1)] [(.ref p1)]))
    obtain ⟨cq14, kq14, q14a, q14b, q14c⟩ := isOf hZ e12' (E1.ext od13.2)
    obtain ⟨_, _, ⟨T14, L14, k14, n14⟩, -, X14, ⟨Lc14, hQ14, l14, y14, z14⟩, st14⟩ := X12.virtualBack hx (y := (⟨"com/example/throughline/throughline/experiments/FilterProtocol", "number", "()I"⟩ : MethodName)) (z := (⟨"com/example/throughline/throughline/experiments/FilterProtocol", "number", "()I"⟩ : MethodName)) hown (mvT hZ (hw _ (List.mem_of_getElem? (i := 26) rfl))) (mvT hZ (hw _ (List.mem_of_getElem? (i := 27) rfl))) (notFace_of_selects (args := #[]) (mvT hZ (hw _ (List.mem_of_getElem? (i := 29) rfl)))) (mvT hZ (hw _ (List.mem_of_getElem? (i := 29) rfl))) (mvT hZ (hw _ (List.mem_of_getElem? (i := 28) rfl))) (by decide) (backOf (W := 0) (rm3 l Z a0 hw [] p1 (0 : Int32) (1 : Int32) h12 n0 zs13 od13 E1 F1 rfl) hZ (hw _ (List.mem_of_getElem? (i := 30) rfl)) (hw _ (List.mem_of_getElem? (i := 2) rfl)) (by decide) (by decide)) q14a q14c (g := (mkF m 72 #[.val (.int x0), .val (.int (1 : Int32)), .val (.ref p1), .val (.ref p1)] [(.ref p1)])) rfl (by rw [hml]; rfl) (Steps.refl _) (argsL := []) (rest := []) (lenOf own_pd0 rfl) rfl (by show 2 * 0 + _ ≤ _; exact Nat.le_of_eq rfl) (hb hby at_72) (fun _ _ => ⟨rfl, e12', (by decide : 1 + 0 ≤ _), (by decide : 5 + 0 ≤ _)⟩)
    dsimp only [Pt.U, Pt.locs, Pt.cells, Pt.slots] at X14 l14 y14 z14 st14 hQ14
    subst l14 y14 z14
    obtain ⟨rfl, N14q, e14⟩ := hQ14
    have N14 := Fr.app N12 N14q
    refine own_go ?_ (fun tq kt => st14.trans kt)
    show own_Fin _ _ _ _ (T14.setTop (mkF m 75 #[.val (.int x0), .val (.int (1 : Int32)), .val (.ref p1), .val (.ref p1)] [(.int (1 : Int32))]))
    refine own_go ?_ (fun tq kt => XS.iloadN X14.here hx rfl (hb hby at_75) rfl kt)
    show own_Fin _ _ _ _ (T14.setTop (mkF m 76 #[.val (.int x0), .val (.int (1 : Int32)), .val (.ref p1), .val (.ref p1)] [(.int (1 : Int32)), (.int (1 : Int32))]))
    refine own_go ?_ (fun tq kt => XS.icmpNo X14.here hx rfl (hb hby at_76) rfl (teq (rfl : (1 : Int32) = (1 : Int32))).2 kt)
    show own_Fin _ _ _ _ (T14.setTop (mkF m 79 #[.val (.int x0), .val (.int (1 : Int32)), .val (.ref p1), .val (.ref p1)] []))
    refine own_go ?_ (fun tq kt => XS.iconst X14.here hx rfl (hb hby at_79) kt)
    show own_Fin _ _ _ _ (T14.setTop (mkF m 80 #[.val (.int x0), .val (.int (1 : Int32)), .val (.ref p1), .val (.ref p1)] [(.int (1 : Int32))]))
    refine own_go ?_ (fun tq kt => XS.goto X14.here hx rfl (pc0 := 80) (pc' := 84) rfl (hb hby at_80) (by decide) (by decide) kt)
    show own_Fin _ _ _ _ (T14.setTop (mkF m 84 #[.val (.int x0), .val (.int (1 : Int32)), .val (.ref p1), .val (.ref p1)] [(.int (1 : Int32))]))
    refine own_retN X14 hx (t := .boolean) Bd.returns (by simp) (hb hby at_84) hlk ?_ (by decide) (by decide)
    exact ⟨rfl, N14⟩
  · show own_Fin _ _ _ _ (s₁.setTop (mkF m 9 #[.val (.int x0), .val (.int (2 : Int32)), .unset, .unset] []))
    refine own_go ?_ (fun tq kt => XS.iloadN X0.here hx rfl (hb hby at_9) rfl kt)
    show own_Fin _ _ _ _ (s₁.setTop (mkF m 10 #[.val (.int x0), .val (.int (2 : Int32)), .unset, .unset] [(.int (2 : Int32))]))
    refine own_go ?_ (fun tq kt => XS.iconst X0.here hx rfl (hb hby at_10) kt)
    show own_Fin _ _ _ _ (s₁.setTop (mkF m 11 #[.val (.int x0), .val (.int (2 : Int32)), .unset, .unset] [(.int (1 : Int32)), (.int (2 : Int32))]))
    refine own_go ?_ (fun tq kt => XS.icmpYes X0.here hx rfl (pc0 := 11) (pc' := 21) rfl (hb hby at_11) rfl (feq ((by decide) : ¬ ((2 : Int32) = (1 : Int32)))).2 (by decide) (by decide) kt)
    show own_Fin _ _ _ _ (s₁.setTop (mkF m 21 #[.val (.int x0), .val (.int (2 : Int32)), .unset, .unset] []))
    refine own_go ?_ (fun tq kt => XS.iloadN X0.here hx rfl (hb hby at_21) rfl kt)
    show own_Fin _ _ _ _ (s₁.setTop (mkF m 22 #[.val (.int x0), .val (.int (2 : Int32)), .unset, .unset] [(.int (2 : Int32))]))
    refine own_go ?_ (fun tq kt => XS.iconst X0.here hx rfl (hb hby at_22) kt)
    show own_Fin _ _ _ _ (s₁.setTop (mkF m 23 #[.val (.int x0), .val (.int (2 : Int32)), .unset, .unset] [(.int (2 : Int32)), (.int (2 : Int32))]))
    refine own_go ?_ (fun tq kt => XS.icmpNo X0.here hx rfl (hb hby at_23) rfl (teq (rfl : (2 : Int32) = (2 : Int32))).2 kt)
    show own_Fin _ _ _ _ (s₁.setTop (mkF m 26 #[.val (.int x0), .val (.int (2 : Int32)), .unset, .unset] []))
    obtain ⟨T15, X15, e15, st15⟩ := getS2 X0 hx hZ hown (host := "") (Or.inl (hw _ (List.mem_of_getElem? (i := 41) rfl))) Via.refl e0 (S2.ext O0.2) (g := (mkF m 26 #[.val (.int x0), .val (.int (2 : Int32)), .unset, .unset] [])) rfl (hb hby at_26)
    refine own_go ?_ (fun tq kt => st15 _ kt)
    show own_Fin _ _ _ _ (T15.setTop (mkF m 29 #[.val (.int x0), .val (.int (2 : Int32)), .unset, .unset] [(.ref p2)]))
    refine own_go ?_ (fun tq kt => XS.astoreN X15.here hx rfl (hb hby at_29) rfl rfl (l' := #[.val (.int x0), .val (.int (2 : Int32)), .val (.ref p2), .unset]) rfl kt)
    show own_Fin _ _ _ _ (T15.setTop (mkF m 30 #[.val (.int x0), .val (.int (2 : Int32)), .val (.ref p2), .unset] []))
    refine own_go ?_ (fun tq kt => XS.goto X15.here hx rfl (pc0 := 30) (pc' := 61) rfl (hb hby at_30) (by decide) (by decide) kt)
    show own_Fin _ _ _ _ (T15.setTop (mkF m 61 #[.val (.int x0), .val (.int (2 : Int32)), .val (.ref p2), .unset] []))
    refine own_go ?_ (fun tq kt => XS.iloadN X15.here hx rfl (hb hby at_61) rfl kt)
    show own_Fin _ _ _ _ (T15.setTop (mkF m 62 #[.val (.int x0), .val (.int (2 : Int32)), .val (.ref p2), .unset] [(.int (2 : Int32))]))
    obtain ⟨_, _, ⟨T16, L16, k16, n16⟩, -, X16, ⟨Lc16, hQ16, l16, y16, z16⟩, st16⟩ := Jvm.LawKit.callS X15 hx (y := (⟨"com/example/throughline/throughline/experiments/FilterProtocol", "of", "(I)Lcom/example/throughline/throughline/experiments/FilterProtocol;"⟩ : MethodName)) hown (mvT hZ (hw _ (List.mem_of_getElem? (i := 4) rfl))) (mvT hZ (hw _ (List.mem_of_getElem? (i := 5) rfl))) (mvT hZ (hw _ (List.mem_of_getElem? (i := 2) rfl))) (mvT hZ (hw _ (List.mem_of_getElem? (i := 6) rfl))) (by decide) (backOf (W := 0) (rm1 l Z a0 hw [] (2 : Int32) va k [.ref p1, .ref p2, .ref p3, .ref p4, .ref p5] p2 h0 n0 Z0 O0 SV AV EV (by decide) (by decide) ⟨by decide, by decide⟩ rfl) hZ (hw _ (List.mem_of_getElem? (i := 6) rfl)) (hw _ (List.mem_of_getElem? (i := 2) rfl)) (by decide) (by decide)) (g := (mkF m 62 #[.val (.int x0), .val (.int (2 : Int32)), .val (.ref p2), .unset] [(.int (2 : Int32))])) rfl (by rw [hml]; rfl) (argsL := [(.int (2 : Int32))]) (rest := []) (lenOf own_pd2 rfl) rfl (by show 2 * 0 + _ ≤ _; exact Nat.le_of_eq rfl) (hb hby at_62) (fun _ _ => ⟨rfl, e15, (by decide : 0 + 1 ≤ _), (by decide : 0 + 5 ≤ _)⟩)
    dsimp only [Pt.U, Pt.locs, Pt.cells, Pt.slots] at X16 l16 y16 z16 st16 hQ16
    subst l16 y16 z16
    obtain ⟨rfl, N16q, E16⟩ := hQ16
    have N16 := Fr.app N0 N16q
    obtain ⟨h16, e16⟩ : ∃ z, z = T16.heap := ⟨_, rfl⟩
    have e16' := e16.symm
    rw [← e16] at E16
    have zs17 := Nat.le_trans Z0 E16.1
    have od17 := O0.ext E16
    refine own_go ?_ (fun tq kt => st16 _ kt)
    show own_Fin _ _ _ _ (T16.setTop (mkF m 65 #[.val (.int x0), .val (.int (2 : Int32)), .val (.ref p2), .unset] [(.ref p2)]))
    refine own_go ?_ (fun tq kt => XS.astoreN X16.here hx rfl (hb hby at_65) rfl rfl (l' := #[.val (.int x0), .val (.int (2 : Int32)), .val (.ref p2), .val (.ref p2)]) rfl kt)
    show own_Fin _ _ _ _ (T16.setTop (mkF m 66 #[.val (.int x0), .val (.int (2 : Int32)), .val (.ref p2), .val (.ref p2)] []))
    refine own_go ?_ (fun tq kt => XS.aloadN X16.here hx rfl (hb hby at_66) rfl rfl kt)
    show own_Fin _ _ _ _ (T16.setTop (mkF m 67 #[.val (.int x0), .val (.int (2 : Int32)), .val (.ref p2), .val (.ref p2)] [(.ref p2)]))
    refine own_go ?_ (fun tq kt => XS.aloadN X16.here hx rfl (hb hby at_67) rfl rfl kt)
    show own_Fin _ _ _ _ (T16.setTop (mkF m 68 #[.val (.int x0), .val (.int (2 : Int32)), .val (.ref p2), .val (.ref p2)] [(.ref p2), (.ref p2)]))
    refine own_go ?_ (fun tq kt => Jvm.RoadKit.acmp (g := (mkF m 68 #[.val (.int x0), .val (.int (2 : Int32)), .val (.ref p2), .val (.ref p2)] [(.ref p2), (.ref p2)])) X16 hx rfl rfl rfl (pc0 := 68) (pc' := 71) (same := true) rfl (hb hby at_68) rfl (decide_eq_true rfl) (by decide) (by decide) kt)
    show own_Fin _ _ _ _ (T16.setTop (mkF m 71 #[.val (.int x0), .val (.int (2 : Int32)), .val (.ref p2), .val (.ref p2)] []))
    refine own_go ?_ (fun tq kt => XS.aloadN X16.here hx rfl (hb hby at_71) rfl rfl kt)
    show own_Fin _ _ _ _ (T16.setTop (mkF m 72 #[.val (.int x0), .val (.int (2 : Int32)), .val (.ref p2), .val (.ref p2)] [(.ref p2)]))
    obtain ⟨cq18, kq18, q18a, q18b, q18c⟩ := isOf hZ e16' (E2.ext od17.2)
    obtain ⟨_, _, ⟨T18, L18, k18, n18⟩, -, X18, ⟨Lc18, hQ18, l18, y18, z18⟩, st18⟩ := X16.virtualBack hx (y := (⟨"com/example/throughline/throughline/experiments/FilterProtocol", "number", "()I"⟩ : MethodName)) (z := (⟨"com/example/throughline/throughline/experiments/FilterProtocol", "number", "()I"⟩ : MethodName)) hown (mvT hZ (hw _ (List.mem_of_getElem? (i := 26) rfl))) (mvT hZ (hw _ (List.mem_of_getElem? (i := 27) rfl))) (notFace_of_selects (args := #[]) (mvT hZ (hw _ (List.mem_of_getElem? (i := 29) rfl)))) (mvT hZ (hw _ (List.mem_of_getElem? (i := 29) rfl))) (mvT hZ (hw _ (List.mem_of_getElem? (i := 28) rfl))) (by decide) (backOf (W := 0) (rm3 l Z a0 hw [] p2 (1 : Int32) (2 : Int32) h16 n0 zs17 od17 E2 F2 rfl) hZ (hw _ (List.mem_of_getElem? (i := 30) rfl)) (hw _ (List.mem_of_getElem? (i := 2) rfl)) (by decide) (by decide)) q18a q18c (g := (mkF m 72 #[.val (.int x0), .val (.int (2 : Int32)), .val (.ref p2), .val (.ref p2)] [(.ref p2)])) rfl (by rw [hml]; rfl) (Steps.refl _) (argsL := []) (rest := []) (lenOf own_pd0 rfl) rfl (by show 2 * 0 + _ ≤ _; exact Nat.le_of_eq rfl) (hb hby at_72) (fun _ _ => ⟨rfl, e16', (by decide : 1 + 0 ≤ _), (by decide : 5 + 0 ≤ _)⟩)
    dsimp only [Pt.U, Pt.locs, Pt.cells, Pt.slots] at X18 l18 y18 z18 st18 hQ18
    subst l18 y18 z18
    obtain ⟨rfl, N18q, e18⟩ := hQ18
    have N18 := Fr.app N16 N18q
    refine own_go ?_ (fun tq kt => st18.trans kt)
    show own_Fin _ _ _ _ (T18.setTop (mkF m 75 #[.val (.int x0), .val (.int (2 : Int32)), .val (.ref p2), .val (.ref p2)] [(.int (2 : Int32))]))
    refine own_go ?_ (fun tq kt => XS.iloadN X18.here hx rfl (hb hby at_75) rfl kt)
    show own_Fin _ _ _ _ (T18.setTop (mkF m 76 #[.val (.int x0), .val (.int (2 : Int32)), .val (.ref p2), .val (.ref p2)] [(.int (2 : Int32)), (.int (2 : Int32))]))
    refine own_go ?_ (fun tq kt => XS.icmpNo X18.here hx rfl (hb hby at_76) rfl (teq (rfl : (2 : Int32) = (2 : Int32))).2 kt)
    show own_Fin _ _ _ _ (T18.setTop (mkF m 79 #[.val (.int x0), .val (.int (2 : Int32)), .val (.ref p2), .val (.ref p2)] []))
    refine own_go ?_ (fun tq kt => XS.iconst X18.here hx rfl (hb hby at_79) kt)
    show own_Fin _ _ _ _ (T18.setTop (mkF m 80 #[.val (.int x0), .val (.int (2 : Int32)), .val (.ref p2), .val (.ref p2)] [(.int (1 : Int32))]))
    refine own_go ?_ (fun tq kt => XS.goto X18.here hx rfl (pc0 := 80) (pc' := 84) rfl (hb hby at_80) (by decide) (by decide) kt)
    show own_Fin _ _ _ _ (T18.setTop (mkF m 84 #[.val (.int x0), .val (.int (2 : Int32)), .val (.ref p2), .val (.ref p2)] [(.int (1 : Int32))]))
    refine own_retN X18 hx (t := .boolean) Bd.returns (by simp) (hb hby at_84) hlk ?_ (by decide) (by decide)
    exact ⟨rfl, N18⟩
  · show own_Fin _ _ _ _ (s₁.setTop (mkF m 9 #[.val (.int x0), .val (.int (3 : Int32)), .unset, .unset] []))
    refine own_go ?_ (fun tq kt => XS.iloadN X0.here hx rfl (hb hby at_9) rfl kt)
    show own_Fin _ _ _ _ (s₁.setTop (mkF m 10 #[.val (.int x0), .val (.int (3 : Int32)), .unset, .unset] [(.int (3 : Int32))]))
    refine own_go ?_ (fun tq kt => XS.iconst X0.here hx rfl (hb hby at_10) kt)
    show own_Fin _ _ _ _ (s₁.setTop (mkF m 11 #[.val (.int x0), .val (.int (3 : Int32)), .unset, .unset] [(.int (1 : Int32)), (.int (3 : Int32))]))
    refine own_go ?_ (fun tq kt => XS.icmpYes X0.here hx rfl (pc0 := 11) (pc' := 21) rfl (hb hby at_11) rfl (feq ((by decide) : ¬ ((3 : Int32) = (1 : Int32)))).2 (by decide) (by decide) kt)
    show own_Fin _ _ _ _ (s₁.setTop (mkF m 21 #[.val (.int x0), .val (.int (3 : Int32)), .unset, .unset] []))
    refine own_go ?_ (fun tq kt => XS.iloadN X0.here hx rfl (hb hby at_21) rfl kt)
    show own_Fin _ _ _ _ (s₁.setTop (mkF m 22 #[.val (.int x0), .val (.int (3 : Int32)), .unset, .unset] [(.int (3 : Int32))]))
    refine own_go ?_ (fun tq kt => XS.iconst X0.here hx rfl (hb hby at_22) kt)
    show own_Fin _ _ _ _ (s₁.setTop (mkF m 23 #[.val (.int x0), .val (.int (3 : Int32)), .unset, .unset] [(.int (2 : Int32)), (.int (3 : Int32))]))
    refine own_go ?_ (fun tq kt => XS.icmpYes X0.here hx rfl (pc0 := 23) (pc' := 33) rfl (hb hby at_23) rfl (feq ((by decide) : ¬ ((3 : Int32) = (2 : Int32)))).2 (by decide) (by decide) kt)
    show own_Fin _ _ _ _ (s₁.setTop (mkF m 33 #[.val (.int x0), .val (.int (3 : Int32)), .unset, .unset] []))
    refine own_go ?_ (fun tq kt => XS.iloadN X0.here hx rfl (hb hby at_33) rfl kt)
    show own_Fin _ _ _ _ (s₁.setTop (mkF m 34 #[.val (.int x0), .val (.int (3 : Int32)), .unset, .unset] [(.int (3 : Int32))]))
    refine own_go ?_ (fun tq kt => XS.iconst X0.here hx rfl (hb hby at_34) kt)
    show own_Fin _ _ _ _ (s₁.setTop (mkF m 35 #[.val (.int x0), .val (.int (3 : Int32)), .unset, .unset] [(.int (3 : Int32)), (.int (3 : Int32))]))
    refine own_go ?_ (fun tq kt => XS.icmpNo X0.here hx rfl (hb hby at_35) rfl (teq (rfl : (3 : Int32) = (3 : Int32))).2 kt)
    show own_Fin _ _ _ _ (s₁.setTop (mkF m 38 #[.val (.int x0), .val (.int (3 : Int32)), .unset, .unset] []))
    obtain ⟨T19, X19, e19, st19⟩ := getS2 X0 hx hZ hown (host := "") (Or.inl (hw _ (List.mem_of_getElem? (i := 43) rfl))) Via.refl e0 (S3.ext O0.2) (g := (mkF m 38 #[.val (.int x0), .val (.int (3 : Int32)), .unset, .unset] [])) rfl (hb hby at_38)
    refine own_go ?_ (fun tq kt => st19 _ kt)
    show own_Fin _ _ _ _ (T19.setTop (mkF m 41 #[.val (.int x0), .val (.int (3 : Int32)), .unset, .unset] [(.ref p3)]))
    refine own_go ?_ (fun tq kt => XS.astoreN X19.here hx rfl (hb hby at_41) rfl rfl (l' := #[.val (.int x0), .val (.int (3 : Int32)), .val (.ref p3), .unset]) rfl kt)
    show own_Fin _ _ _ _ (T19.setTop (mkF m 42 #[.val (.int x0), .val (.int (3 : Int32)), .val (.ref p3), .unset] []))
    refine own_go ?_ (fun tq kt => XS.goto X19.here hx rfl (pc0 := 42) (pc' := 61) rfl (hb hby at_42) (by decide) (by decide) kt)
    show own_Fin _ _ _ _ (T19.setTop (mkF m 61 #[.val (.int x0), .val (.int (3 : Int32)), .val (.ref p3), .unset] []))
    refine own_go ?_ (fun tq kt => XS.iloadN X19.here hx rfl (hb hby at_61) rfl kt)
    show own_Fin _ _ _ _ (T19.setTop (mkF m 62 #[.val (.int x0), .val (.int (3 : Int32)), .val (.ref p3), .unset] [(.int (3 : Int32))]))
    obtain ⟨_, _, ⟨T20, L20, k20, n20⟩, -, X20, ⟨Lc20, hQ20, l20, y20, z20⟩, st20⟩ := Jvm.LawKit.callS X19 hx (y := (⟨"com/example/throughline/throughline/experiments/FilterProtocol", "of", "(I)Lcom/example/throughline/throughline/experiments/FilterProtocol;"⟩ : MethodName)) hown (mvT hZ (hw _ (List.mem_of_getElem? (i := 4) rfl))) (mvT hZ (hw _ (List.mem_of_getElem? (i := 5) rfl))) (mvT hZ (hw _ (List.mem_of_getElem? (i := 2) rfl))) (mvT hZ (hw _ (List.mem_of_getElem? (i := 6) rfl))) (by decide) (backOf (W := 0) (rm1 l Z a0 hw [] (3 : Int32) va k [.ref p1, .ref p2, .ref p3, .ref p4, .ref p5] p3 h0 n0 Z0 O0 SV AV EV (by decide) (by decide) ⟨by decide, by decide⟩ rfl) hZ (hw _ (List.mem_of_getElem? (i := 6) rfl)) (hw _ (List.mem_of_getElem? (i := 2) rfl)) (by decide) (by decide)) (g := (mkF m 62 #[.val (.int x0), .val (.int (3 : Int32)), .val (.ref p3), .unset] [(.int (3 : Int32))])) rfl (by rw [hml]; rfl) (argsL := [(.int (3 : Int32))]) (rest := []) (lenOf own_pd2 rfl) rfl (by show 2 * 0 + _ ≤ _; exact Nat.le_of_eq rfl) (hb hby at_62) (fun _ _ => ⟨rfl, e19, (by decide : 0 + 1 ≤ _), (by decide : 0 + 5 ≤ _)⟩)
    dsimp only [Pt.U, Pt.locs, Pt.cells, Pt.slots] at X20 l20 y20 z20 st20 hQ20
    subst l20 y20 z20
    obtain ⟨rfl, N20q, E20⟩ := hQ20
    have N20 := Fr.app N0 N20q
    obtain ⟨h20, e20⟩ : ∃ z, z = T20.heap := ⟨_, rfl⟩
    have e20' := e20.symm
    rw [← e20] at E20
    have zs21 := Nat.le_trans Z0 E20.1
    have od21 := O0.ext E20
    refine own_go ?_ (fun tq kt => st20 _ kt)
    show own_Fin _ _ _ _ (T20.setTop (mkF m 65 #[.val (.int x0), .val (.int (3 : Int32)), .val (.ref p3), .unset] [(.ref p3)]))
    refine own_go ?_ (fun tq kt => XS.astoreN X20.here hx rfl (hb hby at_65) rfl rfl (l' := #[.val (.int x0), .val (.int (3 : Int32)), .val (.ref p3), .val (.ref p3)]) rfl kt)
    show own_Fin _ _ _ _ (T20.setTop (mkF m 66 #[.val (.int x0), .val (.int (3 : Int32)), .val (.ref p3), .val (.ref p3)] []))
    refine own_go ?_ (fun tq kt => XS.aloadN X20.here hx rfl (hb hby at_66) rfl rfl kt)
    show own_Fin _ _ _ _ (T20.setTop (mkF m 67 #[.val (.int x0), .val (.int (3 : Int32)), .val (.ref p3), .val (.ref p3)] [(.ref p3)]))
    refine own_go ?_ (fun tq kt => XS.aloadN X20.here hx rfl (hb hby at_67) rfl rfl kt)
    show own_Fin _ _ _ _ (T20.setTop (mkF m 68 #[.val (.int x0), .val (.int (3 : Int32)), .val (.ref p3), .val (.ref p3)] [(.ref p3), (.ref p3)]))
    refine own_go ?_ (fun tq kt => Jvm.RoadKit.acmp (g := (mkF m 68 #[.val (.int x0), .val (.int (3 : Int32)), .val (.ref p3), .val (.ref p3)] [(.ref p3), (.ref p3)])) X20 hx rfl rfl rfl (pc0 := 68) (pc' := 71) (same := true) rfl (hb hby at_68) rfl (decide_eq_true rfl) (by decide) (by decide) kt)
    show own_Fin _ _ _ _ (T20.setTop (mkF m 71 #[.val (.int x0), .val (.int (3 : Int32)), .val (.ref p3), .val (.ref p3)] []))
    refine own_go ?_ (fun tq kt => XS.aloadN X20.here hx rfl (hb hby at_71) rfl rfl kt)
    show own_Fin _ _ _ _ (T20.setTop (mkF m 72 #[.val (.int x0), .val (.int (3 : Int32)), .val (.ref p3), .val (.ref p3)] [(.ref p3)]))
    obtain ⟨cq22, kq22, q22a, q22b, q22c⟩ := isOf hZ e20' (E3.ext od21.2)
    obtain ⟨_, _, ⟨T22, L22, k22, n22⟩, -, X22, ⟨Lc22, hQ22, l22, y22, z22⟩, st22⟩ := X20.virtualBack hx (y := (⟨"com/example/throughline/throughline/experiments/FilterProtocol", "number", "()I"⟩ : MethodName)) (z := (⟨"com/example/throughline/throughline/experiments/FilterProtocol", "number", "()I"⟩ : MethodName)) hown (mvT hZ (hw _ (List.mem_of_getElem? (i := 26) rfl))) (mvT hZ (hw _ (List.mem_of_getElem? (i := 27) rfl))) (notFace_of_selects (args := #[]) (mvT hZ (hw _ (List.mem_of_getElem? (i := 29) rfl)))) (mvT hZ (hw _ (List.mem_of_getElem? (i := 29) rfl))) (mvT hZ (hw _ (List.mem_of_getElem? (i := 28) rfl))) (by decide) (backOf (W := 0) (rm3 l Z a0 hw [] p3 (2 : Int32) (3 : Int32) h20 n0 zs21 od21 E3 F3 rfl) hZ (hw _ (List.mem_of_getElem? (i := 30) rfl)) (hw _ (List.mem_of_getElem? (i := 2) rfl)) (by decide) (by decide)) q22a q22c (g := (mkF m 72 #[.val (.int x0), .val (.int (3 : Int32)), .val (.ref p3), .val (.ref p3)] [(.ref p3)])) rfl (by rw [hml]; rfl) (Steps.refl _) (argsL := []) (rest := []) (lenOf own_pd0 rfl) rfl (by show 2 * 0 + _ ≤ _; exact Nat.le_of_eq rfl) (hb hby at_72) (fun _ _ => ⟨rfl, e20', (by decide : 1 + 0 ≤ _), (by decide : 5 + 0 ≤ _)⟩)
    dsimp only [Pt.U, Pt.locs, Pt.cells, Pt.slots] at X22 l22 y22 z22 st22 hQ22
    subst l22 y22 z22
    obtain ⟨rfl, N22q, e22⟩ := hQ22
    have N22 := Fr.app N20 N22q
    refine own_go ?_ (fun tq kt => st22.trans kt)
    show own_Fin _ _ _ _ (T22.setTop (mkF m 75 #[.val (.int x0), .val (.int (3 : Int32)), .val (.ref p3), .val (.ref p3)] [(.int (3 : Int32))]))
    refine own_go ?_ (fun tq kt => XS.iloadN X22.here hx rfl (hb hby at_75) rfl kt)
    show own_Fin _ _ _ _ (T22.setTop (mkF m 76 #[.val (.int x0), .val (.int (3 : Int32)), .val (.ref p3), .val (.ref p3)] [(.int (3 : Int32)), (.int (3 : Int32))]))
    refine own_go ?_ (fun tq kt => XS.icmpNo X22.here hx rfl (hb hby at_76) rfl (teq (rfl : (3 : Int32) = (3 : Int32))).2 kt)
    show own_Fin _ _ _ _ (T22.setTop (mkF m 79 #[.val (.int x0), .val (.int (3 : Int32)), .val (.ref p3), .val (.ref p3)] []))
    refine own_go ?_ (fun tq kt => XS.iconst X22.here hx rfl (hb hby at_79) kt)
    show own_Fin _ _ _ _ (T22.setTop (mkF m 80 #[.val (.int x0), .val (.int (3 : Int32)), .val (.ref p3), .val (.ref p3)] [(.int (1 : Int32))]))
    refine own_go ?_ (fun tq kt => XS.goto X22.here hx rfl (pc0 := 80) (pc' := 84) rfl (hb hby at_80) (by decide) (by decide) kt)
    show own_Fin _ _ _ _ (T22.setTop (mkF m 84 #[.val (.int x0), .val (.int (3 : Int32)), .val (.ref p3), .val (.ref p3)] [(.int (1 : Int32))]))
    refine own_retN X22 hx (t := .boolean) Bd.returns (by simp) (hb hby at_84) hlk ?_ (by decide) (by decide)
    exact ⟨rfl, N22⟩
  · show own_Fin _ _ _ _ (s₁.setTop (mkF m 9 #[.val (.int x0), .val (.int (4 : Int32)), .unset, .unset] []))
    refine own_go ?_ (fun tq kt => XS.iloadN X0.here hx rfl (hb hby at_9) rfl kt)
    show own_Fin _ _ _ _ (s₁.setTop (mkF m 10 #[.val (.int x0), .val (.int (4 : Int32)), .unset, .unset] [(.int (4 : Int32))]))
    refine own_go ?_ (fun tq kt => XS.iconst X0.here hx rfl (hb hby at_10) kt)
    show own_Fin _ _ _ _ (s₁.setTop (mkF m 11 #[.val (.int x0), .val (.int (4 : Int32)), .unset, .unset] [(.int (1 : Int32)), (.int (4 : Int32))]))
    refine own_go ?_ (fun tq kt => XS.icmpYes X0.here hx rfl (pc0 := 11) (pc' := 21) rfl (hb hby at_11) rfl (feq ((by decide) : ¬ ((4 : Int32) = (1 : Int32)))).2 (by decide) (by decide) kt)
    show own_Fin _ _ _ _ (s₁.setTop (mkF m 21 #[.val (.int x0), .val (.int (4 : Int32)), .unset, .unset] []))
    refine own_go ?_ (fun tq kt => XS.iloadN X0.here hx rfl (hb hby at_21) rfl kt)
    show own_Fin _ _ _ _ (s₁.setTop (mkF m 22 #[.val (.int x0), .val (.int (4 : Int32)), .unset, .unset] [(.int (4 : Int32))]))
    refine own_go ?_ (fun tq kt => XS.iconst X0.here hx rfl (hb hby at_22) kt)
    show own_Fin _ _ _ _ (s₁.setTop (mkF m 23 #[.val (.int x0), .val (.int (4 : Int32)), .unset, .unset] [(.int (2 : Int32)), (.int (4 : Int32))]))
    refine own_go ?_ (fun tq kt => XS.icmpYes X0.here hx rfl (pc0 := 23) (pc' := 33) rfl (hb hby at_23) rfl (feq ((by decide) : ¬ ((4 : Int32) = (2 : Int32)))).2 (by decide) (by decide) kt)
    show own_Fin _ _ _ _ (s₁.setTop (mkF m 33 #[.val (.int x0), .val (.int (4 : Int32)), .unset, .unset] []))
    refine own_go ?_ (fun tq kt => XS.iloadN X0.here hx rfl (hb hby at_33) rfl kt)
    show own_Fin _ _ _ _ (s₁.setTop (mkF m 34 #[.val (.int x0), .val (.int (4 : Int32)), .unset, .unset] [(.int (4 : Int32))]))
    refine own_go ?_ (fun tq kt => XS.iconst X0.here hx rfl (hb hby at_34) kt)
    show own_Fin _ _ _ _ (s₁.setTop (mkF m 35 #[.val (.int x0), .val (.int (4 : Int32)), .unset, .unset] [(.int (3 : Int32)), (.int (4 : Int32))]))
    refine own_go ?_ (fun tq kt => XS.icmpYes X0.here hx rfl (pc0 := 35) (pc' := 45) rfl (hb hby at_35) rfl (feq ((by decide) : ¬ ((4 : Int32) = (3 : Int32)))).2 (by decide) (by decide) kt)
    show own_Fin _ _ _ _ (s₁.setTop (mkF m 45 #[.val (.int x0), .val (.int (4 : Int32)), .unset, .unset] []))
    refine own_go ?_ (fun tq kt => XS.iloadN X0.here hx rfl (hb hby at_45) rfl kt)
    show own_Fin _ _ _ _ (s₁.setTop (mkF m 46 #[.val (.int x0), .val (.int (4 : Int32)), .unset, .unset] [(.int (4 : Int32))]))
    refine own_go ?_ (fun tq kt => XS.iconst X0.here hx rfl (hb hby at_46) kt)
    show own_Fin _ _ _ _ (s₁.setTop (mkF m 47 #[.val (.int x0), .val (.int (4 : Int32)), .unset, .unset] [(.int (4 : Int32)), (.int (4 : Int32))]))
    refine own_go ?_ (fun tq kt => XS.icmpNo X0.here hx rfl (hb hby at_47) rfl (teq (rfl : (4 : Int32) = (4 : Int32))).2 kt)
    show own_Fin _ _ _ _ (s₁.setTop (mkF m 50 #[.val (.int x0), .val (.int (4 : Int32)), .unset, .unset] []))
    obtain ⟨T23, X23, e23, st23⟩ := getS2 X0 hx hZ hown (host := "") (Or.inl (hw _ (List.mem_of_getElem? (i := 40) rfl))) Via.refl e0 (S4.ext O0.2) (g := (mkF m 50 #[.val (.int x0), .val (.int (4 : Int32)), .unset, .unset] [])) rfl (hb hby at_50)
    refine own_go ?_ (fun tq kt => st23 _ kt)
    show own_Fin _ _ _ _ (T23.setTop (mkF m 53 #[.val (.int x0), .val (.int (4 : Int32)), .unset, .unset] [(.ref p4)]))
    refine own_go ?_ (fun tq kt => XS.astoreN X23.here hx rfl (hb hby at_53) rfl rfl (l' := #[.val (.int x0), .val (.int (4 : Int32)), .val (.ref p4), .unset]) rfl kt)
    show own_Fin _ _ _ _ (T23.setTop (mkF m 54 #[.val (.int x0), .val (.int (4 : Int32)), .val (.ref p4), .unset] []))
    refine own_go ?_ (fun tq kt => XS.goto X23.here hx rfl (pc0 := 54) (pc' := 61) rfl (hb hby at_54) (by decide) (by decide) kt)
    show own_Fin _ _ _ _ (T23.setTop (mkF m 61 #[.val (.int x0), .val (.int (4 : Int32)), .val (.ref p4), .unset] []))
    refine own_go ?_ (fun tq kt => XS.iloadN X23.here hx rfl (hb hby at_61) rfl kt)
    show own_Fin _ _ _ _ (T23.setTop (mkF m 62 #[.val (.int x0), .val (.int (4 : Int32)), .val (.ref p4), .unset] [(.int (4 : Int32))]))
    obtain ⟨_, _, ⟨T24, L24, k24, n24⟩, -, X24, ⟨Lc24, hQ24, l24, y24, z24⟩, st24⟩ := Jvm.LawKit.callS X23 hx (y := (⟨"com/example/throughline/throughline/experiments/FilterProtocol", "of", "(I)Lcom/example/throughline/throughline/experiments/FilterProtocol;"⟩ : MethodName)) hown (mvT hZ (hw _ (List.mem_of_getElem? (i := 4) rfl))) (mvT hZ (hw _ (List.mem_of_getElem? (i := 5) rfl))) (mvT hZ (hw _ (List.mem_of_getElem? (i := 2) rfl))) (mvT hZ (hw _ (List.mem_of_getElem? (i := 6) rfl))) (by decide) (backOf (W := 0) (rm1 l Z a0 hw [] (4 : Int32) va k [.ref p1, .ref p2, .ref p3, .ref p4, .ref p5] p4 h0 n0 Z0 O0 SV AV EV (by decide) (by decide) ⟨by decide, by decide⟩ rfl) hZ (hw _ (List.mem_of_getElem? (i := 6) rfl)) (hw _ (List.mem_of_getElem? (i := 2) rfl)) (by decide) (by decide)) (g := (mkF m 62 #[.val (.int x0), .val (.int (4 : Int32)), .val (.ref p4), .unset] [(.int (4 : Int32))])) rfl (by rw [hml]; rfl) (argsL := [(.int (4 : Int32))]) (rest := []) (lenOf own_pd2 rfl) rfl (by show 2 * 0 + _ ≤ _; exact Nat.le_of_eq rfl) (hb hby at_62) (fun _ _ => ⟨rfl, e23, (by decide : 0 + 1 ≤ _), (by decide : 0 + 5 ≤ _)⟩)
    dsimp only [Pt.U, Pt.locs, Pt.cells, Pt.slots] at X24 l24 y24 z24 st24 hQ24
    subst l24 y24 z24
    obtain ⟨rfl, N24q, E24⟩ := hQ24
    have N24 := Fr.app N0 N24q
    obtain ⟨h24, e24⟩ : ∃ z, z = T24.heap := ⟨_, rfl⟩
    have e24' := e24.symm
    rw [← e24] at E24
    have zs25 := Nat.le_trans Z0 E24.1
    have od25 := O0.ext E24
    refine own_go ?_ (fun tq kt => st24 _ kt)
    show own_Fin _ _ _ _ (T24.setTop (mkF m 65 #[.val (.int x0), .val (.int (4 : Int32)), .val (.ref p4), .unset] [(.ref p4)]))
    refine own_go ?_ (fun tq kt => XS.astoreN X24.here hx rfl (hb hby at_65) rfl rfl (l' := #[.val (.int x0), .val (.int (4 : Int32)), .val (.ref p4), .val (.ref p4)]) rfl kt)
    show own_Fin _ _ _ _ (T24.setTop (mkF m 66 #[.val (.int x0), .val (.int (4 : Int32)), .val (.ref p4), .val (.ref p4)] []))
    refine own_go ?_ (fun tq kt => XS.aloadN X24.here hx rfl (hb hby at_66) rfl rfl kt)
    show own_Fin _ _ _ _ (T24.setTop (mkF m 67 #[.val (.int x0), .val (.int (4 : Int32)), .val (.ref p4), .val (.ref p4)] [(.ref p4)]))
    refine own_go ?_ (fun tq kt => XS.aloadN X24.here hx rfl (hb hby at_67) rfl rfl kt)
    show own_Fin _ _ _ _ (T24.setTop (mkF m 68 #[.val (.int x0), .val (.int (4 : Int32)), .val (.ref p4), .val (.ref p4)] [(.ref p4), (.ref p4)]))
    refine own_go ?_ (fun tq kt => Jvm.RoadKit.acmp (g := (mkF m 68 #[.val (.int x0), .val (.int (4 : Int32)), .val (.ref p4), .val (.ref p4)] [(.ref p4), (.ref p4)])) X24 hx rfl rfl rfl (pc0 := 68) (pc' := 71) (same := true) rfl (hb hby at_68) rfl (decide_eq_true rfl) (by decide) (by decide) kt)
    show own_Fin _ _ _ _ (T24.setTop (mkF m 71 #[.val (.int x0), .val (.int (4 : Int32)), .val (.ref p4), .val (.ref p4)] []))
    refine own_go ?_ (fun tq kt => XS.aloadN X24.here hx rfl (hb hby at_71) rfl rfl kt)
    show own_Fin _ _ _ _ (T24.setTop (mkF m 72 #[.val (.int x0), .val (.int (4 : Int32)), .val (.ref p4), .val (.ref p4)] [(.ref p4)]))
    obtain ⟨cq26, kq26, q26a, q26b, q26c⟩ := isOf hZ e24' (E4.ext od25.2)
    obtain ⟨_, _, ⟨T26, L26, k26, n26⟩, -, X26, ⟨Lc26, hQ26, l26, y26, z26⟩, st26⟩ := X24.virtualBack hx (y := (⟨"com/example/throughline/throughline/experiments/FilterProtocol", "number", "()I"⟩ : MethodName)) (z := (⟨"com/example/throughline/throughline/experiments/FilterProtocol", "number", "()I"⟩ : MethodName)) hown (mvT hZ (hw _ (List.mem_of_getElem? (i := 26) rfl))) (mvT hZ (hw _ (List.mem_of_getElem? (i := 27) rfl))) (notFace_of_selects (args := #[]) (mvT hZ (hw _ (List.mem_of_getElem? (i := 29) rfl)))) (mvT hZ (hw _ (List.mem_of_getElem? (i := 29) rfl))) (mvT hZ (hw _ (List.mem_of_getElem? (i := 28) rfl))) (by decide) (backOf (W := 0) (rm3 l Z a0 hw [] p4 (3 : Int32) (4 : Int32) h24 n0 zs25 od25 E4 F4 rfl) hZ (hw _ (List.mem_of_getElem? (i := 30) rfl)) (hw _ (List.mem_of_getElem? (i := 2) rfl)) (by decide) (by decide)) q26a q26c (g := (mkF m 72 #[.val (.int x0), .val (.int (4 : Int32)), .val (.ref p4), .val (.ref p4)] [(.ref p4)])) rfl (by rw [hml]; rfl) (Steps.refl _) (argsL := []) (rest := []) (lenOf own_pd0 rfl) rfl (by show 2 * 0 + _ ≤ _; exact Nat.le_of_eq rfl) (hb hby at_72) (fun _ _ => ⟨rfl, e24', (by decide : 1 + 0 ≤ _), (by decide : 5 + 0 ≤ _)⟩)
    dsimp only [Pt.U, Pt.locs, Pt.cells, Pt.slots] at X26 l26 y26 z26 st26 hQ26
    subst l26 y26 z26
    obtain ⟨rfl, N26q, e26⟩ := hQ26
    have N26 := Fr.app N24 N26q
    refine own_go ?_ (fun tq kt => st26.trans kt)
    show own_Fin _ _ _ _ (T26.setTop (mkF m 75 #[.val (.int x0), .val (.int (4 : Int32)), .val (.ref p4), .val (.ref p4)] [(.int (4 : Int32))]))
    refine own_go ?_ (fun tq kt => XS.iloadN X26.here hx rfl (hb hby at_75) rfl kt)
    show own_Fin _ _ _ _ (T26.setTop (mkF m 76 #[.val (.int x0), .val (.int (4 : Int32)), .val (.ref p4), .val (.ref p4)] [(.int (4 : Int32)), (.int (4 : Int32))]))
    refine own_go ?_ (fun tq kt => XS.icmpNo X26.here hx rfl (hb hby at_76) rfl (teq (rfl : (4 : Int32) = (4 : Int32))).2 kt)
    show own_Fin _ _ _ _ (T26.setTop (mkF m 79 #[.val (.int x0), .val (.int (4 : Int32)), .val (.ref p4), .val (.ref p4)] []))
    refine own_go ?_ (fun tq kt => XS.iconst X26.here hx rfl (hb hby at_79) kt)
    show own_Fin _ _ _ _ (T26.setTop (mkF m 80 #[.val (.int x0), .val (.int (4 : Int32)), .val (.ref p4), .val (.ref p4)] [(.int (1 : Int32))]))
    refine own_go ?_ (fun tq kt => XS.goto X26.here hx rfl (pc0 := 80) (pc' := 84) rfl (hb hby at_80) (by decide) (by decide) kt)
    show own_Fin _ _ _ _ (T26.setTop (mkF m 84 #[.val (.int x0), .val (.int (4 : Int32)), .val (.ref p4), .val (.ref p4)] [(.int (1 : Int32))]))
    refine own_retN X26 hx (t := .boolean) Bd.returns (by simp) (hb hby at_84) hlk ?_ (by decide) (by decide)
    exact ⟨rfl, N26⟩
  · show own_Fin _ _ _ _ (s₁.setTop (mkF m 9 #[.val (.int x0), .val (.int (5 : Int32)), .unset, .unset] []))
    refine own_go ?_ (fun tq kt => XS.iloadN X0.here hx rfl (hb hby at_9) rfl kt)
    show own_Fin _ _ _ _ (s₁.setTop (mkF m 10 #[.val (.int x0), .val (.int (5 : Int32)), .unset, .unset] [(.int (5 : Int32))]))
    refine own_go ?_ (fun tq kt => XS.iconst X0.here hx rfl (hb hby at_10) kt)
    show own_Fin _ _ _ _ (s₁.setTop (mkF m 11 #[.val (.int x0), .val (.int (5 : Int32)), .unset, .unset] [(.int (1 : Int32)), (.int (5 : Int32))]))
    refine own_go ?_ (fun tq kt => XS.icmpYes X0.here hx rfl (pc0 := 11) (pc' := 21) rfl (hb hby at_11) rfl (feq ((by decide) : ¬ ((5 : Int32) = (1 : Int32)))).2 (by decide) (by decide) kt)
    show own_Fin _ _ _ _ (s₁.setTop (mkF m 21 #[.val (.int x0), .val (.int (5 : Int32)), .unset, .unset] []))
    refine own_go ?_ (fun tq kt => XS.iloadN X0.here hx rfl (hb hby at_21) rfl kt)
    show own_Fin _ _ _ _ (s₁.setTop (mkF m 22 #[.val (.int x0), .val (.int (5 : Int32)), .unset, .unset] [(.int (5 : Int32))]))
    refine own_go ?_ (fun tq kt => XS.iconst X0.here hx rfl (hb hby at_22) kt)
    show own_Fin _ _ _ _ (s₁.setTop (mkF m 23 #[.val (.int x0), .val (.int (5 : Int32)), .unset, .unset] [(.int (2 : Int32)), (.int (5 : Int32))]))
    refine own_go ?_ (fun tq kt => XS.icmpYes X0.here hx rfl (pc0 := 23) (pc' := 33) rfl (hb hby at_23) rfl (feq ((by decide) : ¬ ((5 : Int32) = (2 : Int32)))).2 (by decide) (by decide) kt)
    show own_Fin _ _ _ _ (s₁.setTop (mkF m 33 #[.val (.int x0), .val (.int (5 : Int32)), .unset, .unset] []))
    refine own_go ?_ (fun tq kt => XS.iloadN X0.here hx rfl (hb hby at_33) rfl kt)
    show own_Fin _ _ _ _ (s₁.setTop (mkF m 34 #[.val (.int x0), .val (.int (5 : Int32)), .unset, .unset] [(.int (5 : Int32))]))
    refine own_go ?_ (fun tq kt => XS.iconst X0.here hx rfl (hb hby at_34) kt)
    show own_Fin _ _ _ _ (s₁.setTop (mkF m 35 #[.val (.int x0), .val (.int (5 : Int32)), .unset, .unset] [(.int (3 : Int32)), (.int (5 : Int32))]))
    refine own_go ?_ (fun tq kt => XS.icmpYes X0.here hx rfl (pc0 := 35) (pc' := 45) rfl (hb hby at_35) rfl (feq ((by decide) : ¬ ((5 : Int32) = (3 : Int32)))).2 (by decide) (by decide) kt)
    show own_Fin _ _ _ _ (s₁.setTop (mkF m 45 #[.val (.int x0), .val (.int (5 : Int32)), .unset, .unset] []))
    refine own_go ?_ (fun tq kt => XS.iloadN X0.here hx rfl (hb hby at_45) rfl kt)
    show own_Fin _ _ _ _ (s₁.setTop (mkF m 46 #[.val (.int x0), .val (.int (5 : Int32)), .unset, .unset] [(.int (5 : Int32))]))
    refine own_go ?_ (fun tq kt => XS.iconst X0.here hx rfl (hb hby at_46) kt)
    show own_Fin _ _ _ _ (s₁.setTop (mkF m 47 #[.val (.int x0), .val (.int (5 : Int32)), .unset, .unset] [(.int (4 : Int32)), (.int (5 : Int32))]))
    refine own_go ?_ (fun tq kt => XS.icmpYes X0.here hx rfl (pc0 := 47) (pc' := 57) rfl (hb hby at_47) rfl (feq ((by decide) : ¬ ((5 : Int32) = (4 : Int32)))).2 (by decide) (by decide) kt)
    show own_Fin _ _ _ _ (s₁.setTop (mkF m 57 #[.val (.int x0), .val (.int (5 : Int32)), .unset, .unset] []))
    obtain ⟨T27, X27, e27, st27⟩ := getS2 X0 hx hZ hown (host := "") (Or.inl (hw _ (List.mem_of_getElem? (i := 42) rfl))) Via.refl e0 (S5.ext O0.2) (g := (mkF m 57 #[.val (.int x0), .val (.int (5 : Int32)), .unset, .unset] [])) rfl (hb hby at_57)
    refine own_go ?_ (fun tq kt => st27 _ kt)
    show own_Fin _ _ _ _ (T27.setTop (mkF m 60 #[.val (.int x0), .val (.int (5 : Int32)), .unset, .unset] [(.ref p5)]))
    refine own_go ?_ (fun tq kt => XS.astoreN X27.here hx rfl (hb hby at_60) rfl rfl (l' := #[.val (.int x0), .val (.int (5 : Int32)), .val (.ref p5), .unset]) rfl kt)
    show own_Fin _ _ _ _ (T27.setTop (mkF m 61 #[.val (.int x0), .val (.int (5 : Int32)), .val (.ref p5), .unset] []))
    refine own_go ?_ (fun tq kt => XS.iloadN X27.here hx rfl (hb hby at_61) rfl kt)
    show own_Fin _ _ _ _ (T27.setTop (mkF m 62 #[.val (.int x0), .val (.int (5 : Int32)), .val (.ref p5), .unset] [(.int (5 : Int32))]))
    obtain ⟨_, _, ⟨T28, L28, k28, n28⟩, -, X28, ⟨Lc28, hQ28, l28, y28, z28⟩, st28⟩ := Jvm.LawKit.callS X27 hx (y := (⟨"com/example/throughline/throughline/experiments/FilterProtocol", "of", "(I)Lcom/example/throughline/throughline/experiments/FilterProtocol;"⟩ : MethodName)) hown (mvT hZ (hw _ (List.mem_of_getElem? (i := 4) rfl))) (mvT hZ (hw _ (List.mem_of_getElem? (i := 5) rfl))) (mvT hZ (hw _ (List.mem_of_getElem? (i := 2) rfl))) (mvT hZ (hw _ (List.mem_of_getElem? (i := 6) rfl))) (by decide) (backOf (W := 0) (rm1 l Z a0 hw [] (5 : Int32) va k [.ref p1, .ref p2, .ref p3, .ref p4, .ref p5] p5 h0 n0 Z0 O0 SV AV EV (by decide) (by decide) ⟨by decide, by decide⟩ rfl) hZ (hw _ (List.mem_of_getElem? (i := 6) rfl)) (hw _ (List.mem_of_getElem? (i := 2) rfl)) (by decide) (by decide)) (g := (mkF m 62 #[.val (.int x0), .val (.int (5 : Int32)), .val (.ref p5), .unset] [(.int (5 : Int32))])) rfl (by rw [hml]; rfl) (argsL := [(.int (5 : Int32))]) (rest := []) (lenOf own_pd2 rfl) rfl (by show 2 * 0 + _ ≤ _; exact Nat.le_of_eq rfl) (hb hby at_62) (fun _ _ => ⟨rfl, e27, (by decide : 0 + 1 ≤ _), (by decide : 0 + 5 ≤ _)⟩)
    dsimp only [Pt.U, Pt.locs, Pt.cells, Pt.slots] at X28 l28 y28 z28 st28 hQ28
    subst l28 y28 z28
    obtain ⟨rfl, N28q, E28⟩ := hQ28
    have N28 := Fr.app N0 N28q
    obtain ⟨h28, e28⟩ : ∃ z, z = T28.heap := ⟨_, rfl⟩
    have e28' := e28.symm
    rw [← e28] at E28
    have zs29 := Nat.le_trans Z0 E28.1
    have od29 := O0.ext E28
    refine own_go ?_ (fun tq kt => st28 _ kt)
    show own_Fin _ _ _ _ (T28.setTop (mkF m 65 #[.val (.int x0), .val (.int (5 : Int32)), .val (.ref p5), .unset] [(.ref p5)]))
    refine own_go ?_ (fun tq kt => XS.astoreN X28.here hx rfl (hb hby at_65) rfl rfl (l' := #[.val (.int x0), .val (.int (5 : Int32)), .val (.ref p5), .val (.ref p5)]) rfl kt)
    show own_Fin _ _ _ _ (T28.setTop (mkF m 66 #[.val (.int x0), .val (.int (5 : Int32)), .val (.ref p5), .val (.ref p5)] []))
    refine own_go ?_ (fun tq kt => XS.aloadN X28.here hx rfl (hb hby at_66) rfl rfl kt)
    show own_Fin _ _ _ _ (T28.setTop (mkF m 67 #[.val (.int x0), .val (.int (5 : Int32)), .val (.ref p5), .val (.ref p5)] [(.ref p5)]))
    refine own_go ?_ (fun tq kt => XS.aloadN X28.here hx rfl (hb hby at_67) rfl rfl kt)
    show own_Fin _ _ _ _ (T28.setTop (mkF m 68 #[.val (.int x0), .val (.int (5 : Int32)), .val (.ref p5), .val (.ref p5)] [(.ref p5), (.ref p5)]))
    refine own_go ?_ (fun tq kt => Jvm.RoadKit.acmp (g := (mkF m 68 #[.val (.int x0), .val (.int (5 : Int32)), .val (.ref p5), .val (.ref p5)] [(.ref p5), (.ref p5)])) X28 hx rfl rfl rfl (pc0 := 68) (pc' := 71) (same := true) rfl (hb hby at_68) rfl (decide_eq_true rfl) (by decide) (by decide) kt)
    show own_Fin _ _ _ _ (T28.setTop (mkF m 71 #[.val (.int x0), .val (.int (5 : Int32)), .val (.ref p5), .val (.ref p5)] []))
    refine own_go ?_ (fun tq kt => XS.aloadN X28.here hx rfl (hb hby at_71) rfl rfl kt)
    show own_Fin _ _ _ _ (T28.setTop (mkF m 72 #[.val (.int x0), .val (.int (5 : Int32)), .val (.ref p5), .val (.ref p5)] [(.ref p5)]))
    obtain ⟨cq30, kq30, q30a, q30b, q30c⟩ := isOf hZ e28' (E5.ext od29.2)
    obtain ⟨_, _, ⟨T30, L30, k30, n30⟩, -, X30, ⟨Lc30, hQ30, l30, y30, z30⟩, st30⟩ := X28.virtualBack hx (y := (⟨"com/example/throughline/throughline/experiments/FilterProtocol", "number", "()I"⟩ : MethodName)) (z := (⟨"com/example/throughline/throughline/experiments/FilterProtocol", "number", "()I"⟩ : MethodName)) hown (mvT hZ (hw _ (List.mem_of_getElem? (i := 26) rfl))) (mvT hZ (hw _ (List.mem_of_getElem? (i := 27) rfl))) (notFace_of_selects (args := #[]) (mvT hZ (hw _ (List.mem_of_getElem? (i := 29) rfl)))) (mvT hZ (hw _ (List.mem_of_getElem? (i := 29) rfl))) (mvT hZ (hw _ (List.mem_of_getElem? (i := 28) rfl))) (by decide) (backOf (W := 0) (rm3 l Z a0 hw [] p5 (4 : Int32) (5 : Int32) h28 n0 zs29 od29 E5 F5 rfl) hZ (hw _ (List.mem_of_getElem? (i := 30) rfl)) (hw _ (List.mem_of_getElem? (i := 2) rfl)) (by decide) (by decide)) q30a q30c (g := (mkF m 72 #[.val (.int x0), .val (.int (5 : Int32)), .val (.ref p5), .val (.ref p5)] [(.ref p5)])) rfl (by rw [hml]; rfl) (Steps.refl _) (argsL := []) (rest := []) (lenOf own_pd0 rfl) rfl (by show 2 * 0 + _ ≤ _; exact Nat.le_of_eq rfl) (hb hby at_72) (fun _ _ => ⟨rfl, e28', (by decide : 1 + 0 ≤ _), (by decide : 5 + 0 ≤ _)⟩)
    dsimp only [Pt.U, Pt.locs, Pt.cells, Pt.slots] at X30 l30 y30 z30 st30 hQ30
    subst l30 y30 z30
    obtain ⟨rfl, N30q, e30⟩ := hQ30
    have N30 := Fr.app N28 N30q
    refine own_go ?_ (fun tq kt => st30.trans kt)
    show own_Fin _ _ _ _ (T30.setTop (mkF m 75 #[.val (.int x0), .val (.int (5 : Int32)), .val (.ref p5), .val (.ref p5)] [(.int (5 : Int32))]))
    refine own_go ?_ (fun tq kt => XS.iloadN X30.here hx rfl (hb hby at_75) rfl kt)
    show own_Fin _ _ _ _ (T30.setTop (mkF m 76 #[.val (.int x0), .val (.int (5 : Int32)), .val (.ref p5), .val (.ref p5)] [(.int (5 : Int32)), (.int (5 : Int32))]))
    refine own_go ?_ (fun tq kt => XS.icmpNo X30.here hx rfl (hb hby at_76) rfl (teq (rfl : (5 : Int32) = (5 : Int32))).2 kt)
    show own_Fin _ _ _ _ (T30.setTop (mkF m 79 #[.val (.int x0), .val (.int (5 : Int32)), .val (.ref p5), .val (.ref p5)] []))
    refine own_go ?_ (fun tq kt => XS.iconst X30.here hx rfl (hb hby at_79) kt)
    show own_Fin _ _ _ _ (T30.setTop (mkF m 80 #[.val (.int x0), .val (.int (5 : Int32)), .val (.ref p5), .val (.ref p5)] [(.int (1 : Int32))]))
    refine own_go ?_ (fun tq kt => XS.goto X30.here hx rfl (pc0 := 80) (pc' := 84) rfl (hb hby at_80) (by decide) (by decide) kt)
    show own_Fin _ _ _ _ (T30.setTop (mkF m 84 #[.val (.int x0), .val (.int (5 : Int32)), .val (.ref p5), .val (.ref p5)] [(.int (1 : Int32))]))
    refine own_retN X30 hx (t := .boolean) Bd.returns (by simp) (hb hby at_84) hlk ?_ (by decide) (by decide)
    exact ⟨rfl, N30⟩
set_option maxRecDepth 65536 in
set_option maxHeartbeats 40000000 in
theorem comes_1 {Post : Tables → Env → Array Value → State → Outcome → State → Prop} (hpost : ∀ tb e args s v u, (limb_1_1.after args s (.returned v) u = true ∧ limb_1_2.after args s (.returned v) u = true ∧ True) → FrameEnd s (.returned v) u (Jvm.fieldLocs frame_1_writes args s ++ Jvm.arrayLocs frame_1_arrays args s ++ Jvm.staticLocs frame_1_statics s) 16 128 → Post tb e args s (.returned v) u) :
    ArmFor flags0 classFile x code maxLocals ret World_1 tables_1 room_1 Calls_1 rest_1 Pre_1 Post := by
  intro l hfl _ _ p e ha hc hk s m args below hf hA hF happ hP
  obtain ⟨hcalls, hrest, hpre⟩ := hP
  obtain ⟨-, -, -, hnamed, -, -, -, hat⟩ := (Spec.applies_iff hf).mp happ
  obtain ⟨hg, hn⟩ := and_e (Cond.before_iff.mp (show (Jvm.Cond.and given_1 narrow_1).before args s = true from hpre))
  obtain ⟨g1, g2⟩ := and_e hg
  obtain ⟨w0, rfl⟩ : ∃ w0 : Value, args = #[w0] := by
    have hs : args.size = 1 := by simpa [Cond.value, given_1] using g1
    obtain ⟨L⟩ := args
    match L, hs with
    | [w0], _ => exact ⟨w0, rfl⟩
  have hw := fun d (hd : d ∈ tables_1) => atoms_spec (ws := Jvm.Cond.code x code maxLocals ret :: tables_1) hat d (List.mem_cons_of_mem _ hd)
  have hfit : Fit s := fun {y c} hc i hi => by
    obtain ⟨ha, rfl⟩ := Array.getElem?_eq_some_iff.mp hc
    have q := List.all_eq_true.mp ((Array.all_eq_true_iff_forall_mem.mp hF) _ (Array.getElem_mem ha)) i (List.mem_range.mpr hi)
    simpa [Array.getElem?_eq_getElem hi] using q
  obtain ⟨i0, ei0⟩ := is_v g2
  obtain rfl : w0 = (.int i0) := Option.some.inj ei0
  obtain ⟨n0, hn⟩ := and_e hn
  obtain ⟨n1, hn⟩ := and_e hn
  obtain ⟨n2, hn⟩ := and_e hn
  obtain ⟨n3, hn⟩ := and_e hn
  obtain ⟨n4, hn⟩ := and_e hn
  obtain ⟨n5, hn⟩ := and_e hn
  obtain ⟨n6, hn⟩ := and_e hn
  obtain ⟨n7, hn⟩ := and_e hn
  obtain ⟨n8, hn⟩ := and_e hn
  obtain ⟨n9, hn⟩ := and_e hn
  obtain ⟨n10, hn⟩ := and_e hn
  obtain ⟨n11, hn⟩ := and_e hn
  obtain ⟨n12, hn⟩ := and_e hn
  obtain ⟨n13, hn⟩ := and_e hn
  obtain ⟨n14, hn⟩ := and_e hn
  obtain ⟨n15, hn⟩ := and_e hn
  obtain ⟨n16, n17⟩ := and_e hn
  obtain ⟨va, eva⟩ := exa_v n2
  obtain ⟨p1, ep1⟩ := exa_v n0
  obtain ⟨p2, ep2⟩ := exa_v n5
  obtain ⟨p3, ep3⟩ := exa_v n7
  obtain ⟨p4, ep4⟩ := exa_v n9
  obtain ⟨p5, ep5⟩ := exa_v n11
  obtain ⟨cl, Ar⟩ := Arr.start eva n1
  obtain ⟨l1, l2⟩ := own_len eva Ar n3
  have AV : Arv s s.heap va cl.cls (.object "com/example/throughline/throughline/experiments/FilterProtocol") 5 [.ref p1, .ref p2, .ref p3, .ref p4, .ref p5] .null := Arv.start hfit Ar l1 l2 (by decide) rfl ⟨own_el eva Ar ep1 n4, own_el eva Ar ep2 n6, own_el eva Ar ep3 n8, own_el eva Ar ep4 n10, own_el eva Ar ep5 n12, trivial⟩
  obtain ⟨n, o, h1, h2, h3, _, L, rfl, ⟨rfl, N⟩, hq⟩ := rm0 l s _ hw tables_1 i0 va cl.cls p1 p2 p3 p4 p5 s.heap s.heap.size (Nat.le_refl _) (Old.start s) (Sta.start eva (Or.inr ⟨(hw _ (List.mem_of_getElem? (i := 2) rfl)), (hw _ (List.mem_of_getElem? (i := 11) rfl))⟩)) AV (Exa.start eva n2) (Sta.start ep1 (Or.inr ⟨(hw _ (List.mem_of_getElem? (i := 2) rfl)), (hw _ (List.mem_of_getElem? (i := 3) rfl))⟩)) (Sta.start ep2 (Or.inr ⟨(hw _ (List.mem_of_getElem? (i := 2) rfl)), (hw _ (List.mem_of_getElem? (i := 19) rfl))⟩)) (Sta.start ep3 (Or.inr ⟨(hw _ (List.mem_of_getElem? (i := 2) rfl)), (hw _ (List.mem_of_getElem? (i := 20) rfl))⟩)) (Sta.start ep4 (Or.inr ⟨(hw _ (List.mem_of_getElem? (i := 2) rfl)), (hw _ (List.mem_of_getElem? (i := 21) rfl))⟩)) (Sta.start ep5 (Or.inr ⟨(hw _ (List.mem_of_getElem? (i := 2) rfl)), (hw _ (List.mem_of_getElem? (i := 22) rfl))⟩)) (Exa.start ep1 n0) (Exa.start ep2 n5) (Exa.start ep3 n7) (Exa.start ep4 n9) (Exa.start ep5 n11) (own_feq ep1 n13) (own_feq ep2 n15) (own_feq ep3 n17) (own_feq ep4 n14) (own_feq ep5 n16) p e ha hc hk s m _ below hf ((Spec.applies_iff_loose hf).mp happ).1 ⟨rfl, State.Warmed39.refl s, rfl⟩ trivial
  refine ⟨n, _, h1, h2, h3, hpost _ _ _ _ _ _ ⟨Cond.after_iff.mpr rfl, Cond.after_iff.mpr (eq_i res_at (Term.int_eval (1)) rfl), trivial⟩ ⟨hq.1, hq.2.1, (hq.2.2.sift fun y hy => Or.inr (N y hy)).mono (by decide) (by decide)⟩⟩
theorem main_1_1 : Claimed_1_1 := comes_1 fun _ _ _ _ _ _ h hF => ⟨h.1, hF⟩
theorem main_1_2 : Claimed_1_2 := comes_1 fun _ _ _ _ _ _ h hF => ⟨h.2.1, hF⟩
end Jvm.Pilot.@@N@@
namespace Jvm.Pilot.@@N@@
open Jvm Jvm.ClassFile Sem Op Lib Jvm.Free Jvm.Stand Jvm.Pilot.@@N@@.Jvm.D
/-! MADE BY PROGRAM (witnessworld.py) out of the Statement's table words and the real class files: 13 classes; the members and pool entries that the words name. The judged class is class 1, her method 1. -/
namespace start1
open Jvm.ClassFile
def u (s : String) : CpInfo := .utf8 (stringToUtf16 s)
/-- a pool by its gaps: so many unusable entries, then the entry; so many at the end -/
def gap : Nat → List CpInfo → List CpInfo
  | 0, r => r
  | n + 1, r => .unusable :: gap n r
def poolList (es : List (Nat × CpInfo)) (last : Nat) : List CpInfo := es.foldr (fun e r => gap e.1 (e.2 :: r)) (gap last [])
def pool (es : List (Nat × CpInfo)) (last : Nat) : Array CpInfo := ⟨poolList es last⟩
def fileOf (pool : Array CpInfo) (this : Nat) (attrs : Array Attribute := #[]) (ms : Array MethodInfo := #[]) (fl : Nat := 33) (sup : Nat := 0) (ifs : Array Nat := #[]) (fds : Array FieldInfo := #[]) : ClassFile where
  minorVersion := 0
  majorVersion := 65
  constantPool := pool
  accessFlags := fl
  thisClass := this
  superClass := sup
  interfaces := ifs
  fields := fds
  methods := ms
  attributes := attrs
def plain (name : String) (sup : Option ClassId) : Class where
  name := name
  kind := .ordinary
  loader := none
  accessFlags := 33
  super := sup
  interfaces := #[]
  cf := none
  fields := #[]
  methods := #[]
  instanceTypes := #[]
  staticTypes := #[]
  resolved := #[]
  callSites := []
  init := .initialized
  statics := none
  mirror := none

def pool0 : Array CpInfo := pool [(5, u "<init>"), (0, u "()V"), (1, .class_ 10), (1, u "java/lang/Object"), (85, u "clone"), (0, u "()Ljava/lang/Object;")] 26

def k0m0 : Method := { name := "<init>", desc := "()V", sig := { parameters := [], returnType := none }, accessFlags := 1, code := none }
def k0m1 : Method := { name := "clone", desc := "()Ljava/lang/Object;", sig := { parameters := [], returnType := some (.object "java/lang/Object") }, accessFlags := 260, code := none }
/-- java/lang/Object -/
def k0 : Class := { plain "java/lang/Object" none with
  accessFlags := 33
  interfaces := #[]
  cf := some (fileOf pool0 8 #[] #[{ accessFlags := 1, nameIndex := 5, descriptorIndex := 6, attributes := #[] }, { accessFlags := 260, nameIndex := 96, descriptorIndex := 97, attributes := #[] }] 33 0 #[] #[])
  fields := #[]
  methods := #[k0m0, k0m1]
  instanceTypes := #[]
  staticTypes := #[]
  resolved := Array.replicate 124 none
  statics := none }

def pool1 : Array CpInfo := pool [(2, .class_ 4), (1, u "java/lang/Object"), (0, u "<init>"), (0, u "()V"), (0, .integer 2147483647), (0, .fieldref 9 10), (0, .class_ 11), (0, .nameAndType 12 13), (0, u "com/example/throughline/throughline/experiments/FilterProtocol"), (0, u "P1"), (0, u "Lcom/example/throughline/throughline/experiments/FilterProtocol;"), (0, .fieldref 9 15), (0, .nameAndType 16 13), (0, u "P2"), (0, .fieldref 9 18), (0, .nameAndType 19 13), (0, u "P3"), (0, .fieldref 9 21), (0, .nameAndType 22 13), (0, u "P4"), (0, .fieldref 9 24), (0, .nameAndType 25 13), (0, u "P5"), (0, .methodref 9 27), (0, .nameAndType 28 29), (0, u "of"), (0, u "(I)Lcom/example/throughline/throughline/experiments/FilterProtocol;"), (0, .methodref 9 31), (0, .nameAndType 32 33), (0, u "number"), (0, u "()I"), (0, .class_ 35), (0, u "com/example/throughline/throughline/experiments/FilterProtocolOfPinLaw"), (2, u "law"), (0, u "(I)Z")] 3

def k1m0 : Method := { name := "<init>", desc := "()V", sig := { parameters := [], returnType := none }, accessFlags := 1, code := none }
def k1c1 : Code := { maxStack := 2, maxLocals := 4, code := code, exceptionTable := #[], attributes := #[] }
def k1m1 : Method := { name := "law", desc := "(I)Z", sig := { parameters := [.int], returnType := some .boolean }, accessFlags := 9, code := some k1c1 }
/-- com/example/throughline/throughline/experiments/FilterProtocolOfPinLaw -/
def k1 : Class := { plain "com/example/throughline/throughline/experiments/FilterProtocolOfPinLaw" (some 0) with
  accessFlags := 49
  interfaces := #[]
  cf := some (fileOf pool1 34 #[] #[{ accessFlags := 1, nameIndex := 5, descriptorIndex := 6, attributes := #[] }, { accessFlags := 9, nameIndex := 38, descriptorIndex := 39, attributes := #[] }] 49 2 #[] #[])
  fields := #[]
  methods := #[k1m0, k1m1]
  instanceTypes := #[]
  staticTypes := #[]
  resolved := Array.replicate 43 none
  statics := none }

def pool2 : Array CpInfo := pool [(1, .class_ 2), (0, u "java/lang/constant/Constable"), (0, .class_ 4), (0, u "java/lang/Object")] 6

/-- java/lang/constant/Constable -/
def k2 : Class := { plain "java/lang/constant/Constable" (some 0) with
  accessFlags := 1537
  interfaces := #[]
  cf := some (fileOf pool2 1 #[] #[] 1537 3 #[] #[])
  fields := #[]
  methods := #[]
  instanceTypes := #[]
  staticTypes := #[]
  resolved := Array.replicate 11 none
  statics := none }

def pool3 : Array CpInfo := pool [(1, .class_ 2), (0, u "java/lang/Comparable"), (0, .class_ 4), (0, u "java/lang/Object")] 7

/-- java/lang/Comparable -/
def k3 : Class := { plain "java/lang/Comparable" (some 0) with
  accessFlags := 1537
  interfaces := #[]
  cf := some (fileOf pool3 1 #[] #[] 1537 3 #[] #[])
  fields := #[]
  methods := #[]
  instanceTypes := #[]
  staticTypes := #[]
  resolved := Array.replicate 12 none
  statics := none }

def pool4 : Array CpInfo := pool [(1, .class_ 2), (0, u "java/io/Serializable"), (0, .class_ 4), (0, u "java/lang/Object")] 2

/-- java/io/Serializable -/
def k4 : Class := { plain "java/io/Serializable" (some 0) with
  accessFlags := 1537
  interfaces := #[]
  cf := some (fileOf pool4 1 #[] #[] 1537 3 #[] #[])
  fields := #[]
  methods := #[]
  instanceTypes := #[]
  staticTypes := #[]
  resolved := Array.replicate 7 none
  statics := none }

def pool5 : Array CpInfo := pool [(2, .class_ 4), (1, u "java/lang/Enum"), (0, u "name"), (0, u "Ljava/lang/String;"), (0, .fieldref 2 8), (0, .nameAndType 9 10), (0, u "ordinal"), (0, u "I"), (1, .class_ 14), (1, u "java/lang/Object"), (4, u "hash"), (86, .class_ 108), (1, u "java/lang/Enum$EnumDesc"), (2, .class_ 112), (0, u "java/lang/constant/Constable"), (0, .class_ 114), (0, u "java/lang/Comparable"), (0, .class_ 116), (0, u "java/io/Serializable"), (9, u "()I")] 77

def k5c0 : Code := { maxStack := 1, maxLocals := 1, code := jdk_37_method_2_code, exceptionTable := #[], attributes := #[] }
def k5m0 : Method := { name := "ordinal", desc := "()I", sig := { parameters := [], returnType := some .int }, accessFlags := 17, code := some k5c0 }
/-- java/lang/Enum -/
def k5 : Class := { plain "java/lang/Enum" (some 0) with
  accessFlags := 1057
  interfaces := #[2, 3, 4]
  cf := some (fileOf pool5 2 #[.nestMembers #[106]] #[{ accessFlags := 17, nameIndex := 9, descriptorIndex := 126, attributes := #[] }] 1057 12 #[111, 113, 115] #[{ accessFlags := 18, nameIndex := 5, descriptorIndex := 6, attributes := #[] }, { accessFlags := 18, nameIndex := 9, descriptorIndex := 10, attributes := #[] }, { accessFlags := 2, nameIndex := 19, descriptorIndex := 10, attributes := #[] }])
  fields := #[{ name := "name", type := (.object "java/lang/String"), accessFlags := 18, slot := 0, constantValue := 0 }, { name := "ordinal", type := .int, accessFlags := 18, slot := 1, constantValue := 0 }, { name := "hash", type := .int, accessFlags := 2, slot := 2, constantValue := 0 }]
  methods := #[k5m0]
  instanceTypes := #[(.object "java/lang/String"), .int, .int]
  staticTypes := #[]
  resolved := Array.replicate 204 none
  statics := none }

def pool6 : Array CpInfo := pool [(3, .class_ 4), (0, u "com/example/throughline/throughline/experiments/FilterProtocol"), (2, u "P1"), (0, u "Lcom/example/throughline/throughline/experiments/FilterProtocol;"), (2, u "P2"), (2, u "P3"), (2, u "P4"), (2, u "P5"), (0, .fieldref 3 22), (0, .nameAndType 23 24), (0, u "$VALUES"), (0, u "[Lcom/example/throughline/throughline/experiments/FilterProtocol;"), (0, .methodref 26 27), (0, .class_ 24), (0, .nameAndType 28 29), (0, u "clone"), (0, u "()Ljava/lang/Object;"), (1, .class_ 33), (1, u "java/lang/Enum"), (8, u "lowSelectivity"), (0, u "I"), (2, u "highSelectivity"), (2, u "lowSpeed"), (2, u "highSpeed"), (0, .methodref 3 54), (0, .nameAndType 55 56), (0, u "values"), (0, u "()[Lcom/example/throughline/throughline/experiments/FilterProtocol;"), (9, .methodref 3 67), (0, .nameAndType 68 69), (0, u "ordinal"), (0, u "()I"), (18, u "of"), (29, u "number"), (21, u "MOST_COST"), (2, u "MOST_DIGITS_PER_SERVICE"), (1, u "MAX_SERVICES"), (1, u "HUNDREDTHS"), (6, u "(I)Lcom/example/throughline/throughline/experiments/FilterProtocol;")] 31

def k6c0 : Code := { maxStack := 1, maxLocals := 0, code := prog_42_method_1_code, exceptionTable := #[], attributes := #[] }
def k6m0 : Method := { name := "values", desc := "()[Lcom/example/throughline/throughline/experiments/FilterProtocol;", sig := { parameters := [], returnType := some (.array (.object "com/example/throughline/throughline/experiments/FilterProtocol")) }, accessFlags := 9, code := some k6c0 }
def k6c1 : Code := { maxStack := 4, maxLocals := 2, code := prog_42_method_4_code, exceptionTable := #[], attributes := #[] }
def k6m1 : Method := { name := "of", desc := "(I)Lcom/example/throughline/throughline/experiments/FilterProtocol;", sig := { parameters := [.int], returnType := some (.object "com/example/throughline/throughline/experiments/FilterProtocol") }, accessFlags := 9, code := some k6c1 }
def k6c2 : Code := { maxStack := 2, maxLocals := 1, code := prog_42_method_5_code, exceptionTable := #[], attributes := #[] }
def k6m2 : Method := { name := "number", desc := "()I", sig := { parameters := [], returnType := some .int }, accessFlags := 1, code := some k6c2 }
/-- com/example/throughline/throughline/experiments/FilterProtocol -/
def k6 : Class := { plain "com/example/throughline/throughline/experiments/FilterProtocol" (some 5) with
  accessFlags := 16433
  interfaces := #[]
  cf := some (fileOf pool6 3 #[] #[{ accessFlags := 9, nameIndex := 55, descriptorIndex := 56, attributes := #[] }, { accessFlags := 9, nameIndex := 88, descriptorIndex := 154, attributes := #[] }, { accessFlags := 1, nameIndex := 118, descriptorIndex := 69, attributes := #[] }] 16433 31 #[] #[{ accessFlags := 16409, nameIndex := 7, descriptorIndex := 8, attributes := #[] }, { accessFlags := 16409, nameIndex := 11, descriptorIndex := 8, attributes := #[] }, { accessFlags := 16409, nameIndex := 14, descriptorIndex := 8, attributes := #[] }, { accessFlags := 16409, nameIndex := 17, descriptorIndex := 8, attributes := #[] }, { accessFlags := 16409, nameIndex := 20, descriptorIndex := 8, attributes := #[] }, { accessFlags := 26, nameIndex := 140, descriptorIndex := 43, attributes := #[] }, { accessFlags := 26, nameIndex := 143, descriptorIndex := 43, attributes := #[] }, { accessFlags := 25, nameIndex := 145, descriptorIndex := 43, attributes := #[] }, { accessFlags := 26, nameIndex := 147, descriptorIndex := 43, attributes := #[] }, { accessFlags := 18, nameIndex := 42, descriptorIndex := 43, attributes := #[] }, { accessFlags := 18, nameIndex := 46, descriptorIndex := 43, attributes := #[] }, { accessFlags := 18, nameIndex := 49, descriptorIndex := 43, attributes := #[] }, { accessFlags := 18, nameIndex := 52, descriptorIndex := 43, attributes := #[] }, { accessFlags := 4122, nameIndex := 23, descriptorIndex := 24, attributes := #[] }])
  fields := #[{ name := "P1", type := (.object "com/example/throughline/throughline/experiments/FilterProtocol"), accessFlags := 16409, slot := 0, constantValue := 0 }, { name := "P2", type := (.object "com/example/throughline/throughline/experiments/FilterProtocol"), accessFlags := 16409, slot := 1, constantValue := 0 }, { name := "P3", type := (.object "com/example/throughline/throughline/experiments/FilterProtocol"), accessFlags := 16409, slot := 2, constantValue := 0 }, { name := "P4", type := (.object "com/example/throughline/throughline/experiments/FilterProtocol"), accessFlags := 16409, slot := 3, constantValue := 0 }, { name := "P5", type := (.object "com/example/throughline/throughline/experiments/FilterProtocol"), accessFlags := 16409, slot := 4, constantValue := 0 }, { name := "MOST_COST", type := .int, accessFlags := 26, slot := 5, constantValue := 0 }, { name := "MOST_DIGITS_PER_SERVICE", type := .int, accessFlags := 26, slot := 6, constantValue := 0 }, { name := "MAX_SERVICES", type := .int, accessFlags := 25, slot := 7, constantValue := 0 }, { name := "HUNDREDTHS", type := .int, accessFlags := 26, slot := 8, constantValue := 0 }, { name := "lowSelectivity", type := .int, accessFlags := 18, slot := 3, constantValue := 0 }, { name := "highSelectivity", type := .int, accessFlags := 18, slot := 4, constantValue := 0 }, { name := "lowSpeed", type := .int, accessFlags := 18, slot := 5, constantValue := 0 }, { name := "highSpeed", type := .int, accessFlags := 18, slot := 6, constantValue := 0 }, { name := "$VALUES", type := (.array (.object "com/example/throughline/throughline/experiments/FilterProtocol")), accessFlags := 4122, slot := 9, constantValue := 0 }]
  methods := #[k6m0, k6m1, k6m2]
  instanceTypes := #[(.object "java/lang/String"), .int, .int, .int, .int, .int, .int]
  staticTypes := #[(.object "com/example/throughline/throughline/experiments/FilterProtocol"), (.object "com/example/throughline/throughline/experiments/FilterProtocol"), (.object "com/example/throughline/throughline/experiments/FilterProtocol"), (.object "com/example/throughline/throughline/experiments/FilterProtocol"), (.object "com/example/throughline/throughline/experiments/FilterProtocol"), .int, .int, .int, .int, (.array (.object "com/example/throughline/throughline/experiments/FilterProtocol"))]
  resolved := Array.replicate 186 none
  statics := some 0 }

def pool7 : Array CpInfo := pool [(1, .class_ 2), (0, u "java/lang/Cloneable"), (0, .class_ 4), (0, u "java/lang/Object")] 2

/-- java/lang/Cloneable -/
def k7 : Class := { plain "java/lang/Cloneable" (some 0) with
  accessFlags := 1537
  interfaces := #[]
  cf := some (fileOf pool7 1 #[] #[] 1537 3 #[] #[])
  fields := #[]
  methods := #[]
  instanceTypes := #[]
  staticTypes := #[]
  resolved := Array.replicate 7 none
  statics := none }

/-- the primitive byte -/
def k8 : Class := { plain "byte" none with kind := .primitive 'B', accessFlags := 0x411 }
/-- [B -/
def k9 : Class := { plain "[B" (some 0) with kind := .array 8 .byte, interfaces := #[7, 4], accessFlags := 1041 }

/-- the primitive int -/
def k10 : Class := { plain "int" none with kind := .primitive 'I', accessFlags := 0x411 }
/-- [I -/
def k11 : Class := { plain "[I" (some 0) with kind := .array 10 .int, interfaces := #[7, 4], accessFlags := 1041 }

/-- [Lcom/example/throughline/throughline/experiments/FilterProtocol; -/
def k12 : Class := { plain "[Lcom/example/throughline/throughline/experiments/FilterProtocol;" (some 0) with kind := .array 6 (.object "com/example/throughline/throughline/experiments/FilterProtocol"), interfaces := #[7, 4], accessFlags := 1041 }

def heap : Heap := #[{ cls := 6, slots := #[.ref 2, .ref 3, .ref 4, .ref 5, .ref 6, .int 0, .int 0, .int 0, .int 0, .ref 1], vm := .statics 6 },
  { cls := 12, slots := #[.ref 2, .ref 3, .ref 4, .ref 5, .ref 6], vm := .none },
  { cls := 6, slots := #[.null, .int 0, .int 0, .int 0, .int 0, .int 0, .int 0], vm := .none },
  { cls := 6, slots := #[.null, .int 1, .int 0, .int 0, .int 0, .int 0, .int 0], vm := .none },
  { cls := 6, slots := #[.null, .int 2, .int 0, .int 0, .int 0, .int 0, .int 0], vm := .none },
  { cls := 6, slots := #[.null, .int 3, .int 0, .int 0, .int 0, .int 0, .int 0], vm := .none },
  { cls := 6, slots := #[.null, .int 4, .int 0, .int 0, .int 0, .int 0, .int 0], vm := .none }]
def classes : Array Class := #[k0, k1, k2, k3, k4, k5, k6, k7, k8, k9, k10, k11, k12]
def interned : List (Array UInt16 × Addr) := []
def slotsUsed : Nat := 50
def theMethod : MethodId := ⟨1, 1⟩
def args0 : Array Value := #[.int 5]
def aboutOver (below : List Frame) : State where
  vm := { classes := classes, interned := interned.toArray }
  heap := heap
  slotsUsed := slotsUsed
  threads := #[{ frames := .invoking theMethod args0 :: below }]
def below0 : List Frame := [.native { method := ⟨0, 0⟩, args := #[] }]
def about1 : State := aboutOver below0
def p0 : Program := .bare "" "" ""
def e0 : Env := launch0.env 0 0 0
theorem w_frames : about1.frames = Frame.invoking theMethod args0 :: below0 := rfl
set_option maxRecDepth 65536 in
theorem w_args : argsFit about1.vm theMethod args0 = true := by decide +kernel
set_option maxRecDepth 65536 in
theorem w_heap : heapFits about1 = true := by decide +kernel
set_option maxRecDepth 65536 in
theorem w_runnable : about1.curStatus? = some .runnable := by decide +kernel
set_option maxRecDepth 65536 in
theorem w_alone : about1.alone = true := by decide +kernel
set_option maxRecDepth 65536 in
theorem w_named : about1.methodNamed? x = some theMethod := by decide +kernel
set_option maxRecDepth 65536 in
theorem w_hears : about1.hears theMethod below0 = true := by decide +kernel
set_option maxRecDepth 65536 in
theorem w_ripe : about1.ripe theMethod args0 below0 = true := by decide +kernel
theorem w_running : about1.status = .running := rfl
set_option maxRecDepth 65536 in
theorem w_room : about1.hasRoom e0.platform room_1 = true :=
  launch0.hasRoom_least _ room_1 (by decide +kernel) (by decide +kernel) (by decide +kernel) (by decide +kernel) (by decide +kernel) (by decide +kernel)
theorem allAtoms_all (ts : List Jvm.Cond) (a : Array Jvm.Value) (st : Jvm.State) : (allAtoms ts).before a st = ts.all (fun c => c.before a st) := by
  induction ts with
  | nil => rfl
  | cons c t ih =>
    show (Jvm.Cond.and c (allAtoms t)).before a st = _
    rw [Jvm.Cond.before_and, ih, List.all_cons]
def words1 : List Jvm.Cond := Jvm.Cond.code x code maxLocals ret :: tables_1
/-- a 'code' word, met by the world's own term for the bytes: nothing is compared byte by byte -/
theorem code_word {y : MethodName} {bytes : ByteArray} {mx : Nat} {rt : Option FieldType} {a : Array Value} {s : State} {m : MethodId} {meth : Method} {c : Code} (h1 : s.methodNamed? y = some m) (h2 : s.vm.method? m = some meth) (h3 : meth.code = some c) (h4 : c.code = bytes)
    (h5 : (c.maxLocals == mx && c.exceptionTable.isEmpty && decide (c.maxStack ≤ mostOperands) && decide (meth.sig.returnType = rt) && !meth.locks && decide (parseMethodDescriptor y.desc = some meth.sig)) = true) : (Jvm.Cond.code y bytes mx rt).before a s = true := by
  simp only [Bool.and_eq_true, beq_iff_eq, Bool.not_eq_true', decide_eq_true_eq] at h5
  obtain ⟨⟨⟨⟨⟨g1, g2⟩, g3⟩, g4⟩, g5⟩, g6⟩ := h5
  simp [Cond.before, Cond.holds, Cond.value, h1, h2, h3, h4, g1, g2, g3, g4, g5, g6]
def isCode : Jvm.Cond → Bool
  | .code _ _ _ _ => true
  | _ => false
theorem all_split {L : List Jvm.Cond} {P : Jvm.Cond → Bool} (h1 : L.all (fun c => isCode c || P c) = true) (h2 : ∀ c ∈ L.filter isCode, P c = true) : L.all P = true := by
  refine List.all_eq_true.mpr fun c hc => ?_
  have h := List.all_eq_true.mp h1 c hc
  rcases Bool.eq_false_or_eq_true (isCode c) with hi | hi
  · exact h2 c (List.mem_filter.mpr ⟨hc, hi⟩)
  · simpa [hi] using h
set_option maxRecDepth 65536 in
theorem w_c0 : (Jvm.Cond.code x code maxLocals ret).before args0 about1 = true := code_word (m := ⟨1, 1⟩) (meth := k1m1) (c := k1c1) (by decide +kernel) rfl rfl rfl (by decide +kernel)
set_option maxRecDepth 65536 in
theorem w_c1 : (Jvm.Cond.code ({ cls := "com/example/throughline/throughline/experiments/FilterProtocol", name := "of", desc := "(I)Lcom/example/throughline/throughline/experiments/FilterProtocol;" } : Jvm.MethodName) prog_42_method_4_code (2 : Nat) (Option.some (Jvm.ClassFile.FieldType.object "com/example/throughline/throughline/experiments/FilterProtocol"))).before args0 about1 = true := code_word (m := ⟨6, 1⟩) (meth := k6m1) (c := k6c1) (by decide +kernel) rfl rfl rfl (by decide +kernel)
set_option maxRecDepth 65536 in
theorem w_c2 : (Jvm.Cond.code ({ cls := "com/example/throughline/throughline/experiments/FilterProtocol", name := "values", desc := "()[Lcom/example/throughline/throughline/experiments/FilterProtocol;" } : Jvm.MethodName) prog_42_method_1_code (0 : Nat) (Option.some (Jvm.ClassFile.FieldType.array (Jvm.ClassFile.FieldType.object "com/example/throughline/throughline/experiments/FilterProtocol")))).before args0 about1 = true := code_word (m := ⟨6, 0⟩) (meth := k6m0) (c := k6c0) (by decide +kernel) rfl rfl rfl (by decide +kernel)
set_option maxRecDepth 65536 in
theorem w_c3 : (Jvm.Cond.code ({ cls := "com/example/throughline/throughline/experiments/FilterProtocol", name := "number", desc := "()I" } : Jvm.MethodName) prog_42_method_5_code (1 : Nat) (Option.some Jvm.ClassFile.FieldType.int)).before args0 about1 = true := code_word (m := ⟨6, 2⟩) (meth := k6m2) (c := k6c2) (by decide +kernel) rfl rfl rfl (by decide +kernel)
set_option maxRecDepth 65536 in
theorem w_c4 : (Jvm.Cond.code ({ cls := "java/lang/Enum", name := "ordinal", desc := "()I" } : Jvm.MethodName) jdk_37_method_2_code (1 : Nat) (Option.some Jvm.ClassFile.FieldType.int)).before args0 about1 = true := code_word (m := ⟨5, 0⟩) (meth := k5m0) (c := k5c0) (by decide +kernel) rfl rfl rfl (by decide +kernel)
def codes1 : List Jvm.Cond := [Jvm.Cond.code x code maxLocals ret, Jvm.Cond.code ({ cls := "com/example/throughline/throughline/experiments/FilterProtocol", name := "of", desc := "(I)Lcom/example/throughline/throughline/experiments/FilterProtocol;" } : Jvm.MethodName) prog_42_method_4_code (2 : Nat) (Option.some (Jvm.ClassFile.FieldType.object "com/example/throughline/throughline/experiments/FilterProtocol")), Jvm.Cond.code ({ cls := "com/example/throughline/throughline/experiments/FilterProtocol", name := "values", desc := "()[Lcom/example/throughline/throughline/experiments/FilterProtocol;" } : Jvm.MethodName) prog_42_method_1_code (0 : Nat) (Option.some (Jvm.ClassFile.FieldType.array (Jvm.ClassFile.FieldType.object "com/example/throughline/throughline/experiments/FilterProtocol"))), Jvm.Cond.code ({ cls := "com/example/throughline/throughline/experiments/FilterProtocol", name := "number", desc := "()I" } : Jvm.MethodName) prog_42_method_5_code (1 : Nat) (Option.some Jvm.ClassFile.FieldType.int), Jvm.Cond.code ({ cls := "java/lang/Enum", name := "ordinal", desc := "()I" } : Jvm.MethodName) jdk_37_method_2_code (1 : Nat) (Option.some Jvm.ClassFile.FieldType.int)]
set_option maxRecDepth 65536 in
theorem codes_eq : words1.filter isCode = codes1 := rfl
theorem w_codes : ∀ c ∈ words1.filter isCode, c.before args0 about1 = true := by
  rw [codes_eq]
  intro c hc
  simp only [codes1, List.mem_cons, List.not_mem_nil, or_false] at hc
  rcases hc with rfl | rfl | rfl | rfl | rfl
  · exact w_c0
  · exact w_c1
  · exact w_c2
  · exact w_c3
  · exact w_c4
set_option maxRecDepth 65536 in
theorem w_t1 : (words1.take 24).all (fun c => isCode c || c.before args0 about1) = true := by decide +kernel
set_option maxRecDepth 65536 in
theorem w_t2 : (words1.drop 24).all (fun c => isCode c || c.before args0 about1) = true := by decide +kernel
theorem w_tables : (allAtoms (Jvm.Cond.code x code maxLocals ret :: tables_1)).before args0 about1 = true := by
  rw [allAtoms_all]
  show words1.all (fun c => c.before args0 about1) = true
  refine all_split ?_ w_codes
  rw [← List.take_append_drop 24 words1, List.all_append, w_t1, w_t2]
  rfl
set_option maxRecDepth 65536 in
theorem w_case : (Jvm.Cond.and given_1 narrow_1).before args0 about1 = true := by decide +kernel
theorem w_applies : (headSpec (Jvm.Cond.code x code maxLocals ret :: tables_1) room_1).applies x e0.platform about1 = true :=
  (Spec.applies_iff w_frames).mpr ⟨w_running, w_runnable, w_alone, w_named, w_hears, w_ripe, w_room, w_tables⟩
theorem atStart : AtStart classFile x code maxLocals ret World_1 tables_1 room_1 Calls_1 rest_1 Pre_1 launch0 p0 e0 about1 theMethod args0 below0 :=
  ⟨lists_1, trivial, launch0.admits_env _ _ _, launch0.least_env, fairChoices_fair.cas, fairChoices_fair.clock, w_frames, w_args, w_heap, w_applies, trivial, trivial, w_case⟩
end start1
theorem witness_1 : WitnessClaimed_1 := ⟨start1.p0, start1.e0, start1.about1, start1.theMethod, start1.args0, start1.below0, start1.atStart⟩
end Jvm.Pilot.@@N@@
