import JvmDerived
import JvmDerived.Pilot.@@N@@Statement
import JvmDerived.Pilot.@@N@@Code
set_option linter.unusedVariables false
set_option linter.unusedSimpArgs false
namespace Jvm.Pilot.@@N@@
open Jvm Jvm.ClassFile Sem Op Lib Jvm.Free Jvm.Stand Jvm.LawKit Jvm.RoadKit Bundle Jvm.Pilot.@@N@@.Jvm.D
theorem own_dummy : True := trivial
section Own
variable {p : Program} {l : Launch} {e : Env} {R : Room} {s : State} {m : MethodId} {args : Array Value} {below : List Frame} {meth : Method} {c : Code} {T : State} {locs : List Loc} {cells slots : Nat}
def own_Fin (p : Program) (e : Env) (below : List Frame) (P : Outcome → State → Prop) (U : State) : Prop := ∃ s₂ o, Steps p.tables e below U s₂ ∧ s₂.status = .running ∧ Ended s₂ below o ∧ P o s₂
def own_P (Q : Option Value → Heap → List Loc → Prop) (s : State) (C S : Nat) : Outcome → State → Prop := fun o t => ∃ v L, o = .returned v ∧ Q v t.heap L ∧ FrameEnd s o t L C S
theorem own_go {P : Outcome → State → Prop} {U U' : State} (k : own_Fin p e below P U') (h : ∀ t, Steps p.tables e below U' t → Steps p.tables e below U t) : own_Fin p e below P U := by
  obtain ⟨t, o, h1, r⟩ := k; exact ⟨t, o, h t h1, r⟩
theorem own_cut {P : Outcome → State → Prop} {U : State} (A : Prop) (k : A) (h : A → own_Fin p e below P U) : own_Fin p e below P U := h k
theorem own_retN (X : Stand p l e R s m args below meth c T locs cells slots) (hx : p.tables.exec = Jvm.exec) {pc : Nat} {Ls : Array Slot} {z : Int32} {t : FieldType} {rest : List Value} (hret : meth.sig.returnType = some t) (ht : t = .boolean ∨ t = .byte ∨ t = .char ∨ t = .short)
    (hd : decode c.code pc = .ok (.ireturn, 1)) (hlk : meth.locks = false) {Q : Option Value → Heap → List Loc → Prop} {C S : Nat} (hQ : Q (some (.int (nar t z))) T.heap locs) (hC : cells ≤ C) (hS : slots ≤ S) : own_Fin p e below (own_P Q s C S) (T.setTop (mkF m pc Ls (.int z :: rest))) := by
  obtain ⟨fs, hr, hrun, hended, hW, hsame⟩ := X.leave (v := some (.int (nar t z))) (fun h => by rw [hret] at h; cases h) hlk
  exact ⟨_, _, retN X hx hret ht hd hr, hrun, hended, _, _, rfl, hQ, ⟨_, rfl⟩, hW, hsame.mono hC hS⟩
theorem own_retO (X : Stand p l e R s m args below meth c T locs cells slots) (hx : p.tables.exec = Jvm.exec) {pc : Nat} {Ls : Array Slot} {w : Value} {t : FieldType} {i : Instr} {rest : List Value} (hret : meth.sig.returnType = some t) (hn : narrow t w = w)
    (hi : (i = .ireturn ∧ (t = .int ∨ t = .boolean ∨ t = .byte ∨ t = .char ∨ t = .short) ∧ ∃ z, w = .int z) ∨ (i = .lreturn ∧ t = .long ∧ ∃ z, w = .long z) ∨ (i = .dreturn ∧ t = .double ∧ ∃ z, w = .double z) ∨ (i = .freturn ∧ t = .float ∧ ∃ z, w = .float z) ∨ (i = .areturn ∧ t.isReference = true ∧ w.isRef = true))
    (hd : decode c.code pc = .ok (i, 1)) (hlk : meth.locks = false) {Q : Option Value → Heap → List Loc → Prop} {C S : Nat} (hQ : Q (some w) T.heap locs) (hC : cells ≤ C) (hS : slots ≤ S) : own_Fin p e below (own_P Q s C S) (T.setTop (mkF m pc Ls (w :: rest))) := by
  obtain ⟨fs, hr, hrun, hended, hW, hsame⟩ := X.leave (v := some w) (fun h => by rw [hret] at h; cases h) hlk
  exact ⟨_, _, retOut X hx hret hn hi hd hr, hrun, hended, _, _, rfl, hQ, ⟨_, rfl⟩, hW, hsame.mono hC hS⟩
theorem own_retV (X : Stand p l e R s m args below meth c T locs cells slots) (hx : p.tables.exec = Jvm.exec) {pc : Nat} {Ls : Array Slot} (hret : meth.sig.returnType = none)
    (hd : decode c.code pc = .ok (.return_, 1)) (hlk : meth.locks = false) {Q : Option Value → Heap → List Loc → Prop} {C S : Nat} (hQ : Q none T.heap locs) (hC : cells ≤ C) (hS : slots ≤ S) : own_Fin p e below (own_P Q s C S) (T.setTop (mkF m pc Ls [])) := by
  obtain ⟨fs, hr, hrun, hended, hW, hsame⟩ := X.leave (v := none) (fun _ => rfl) hlk
  exact ⟨_, _, X.returnOut hx hret hd hr, hrun, hended, _, _, rfl, hQ, ⟨_, rfl⟩, hW, hsame.mono hC hS⟩
theorem own_getR {Z : State} {a0 : Array Value} {h : Heap} (X : Stand p l e R s m args below meth c T locs cells slots) (hx : p.tables.exec = Jvm.exec) (hZ : Z.Warmed39 s.vm) {own O n d : String} {index : Nat} (hown : s.vm.findClass own = some m.cls) (w : (Jvm.Cond.fieldRef own index O n d).before a0 Z = true)
    (eT : T.heap = h) {a : Addr} {v : Value} (F : Fld Z h a O n d v) {g : JFrame} (hg : g.method = m) {rest : List Value} (hs : g.stack = .ref a :: rest) (hd : decode c.code g.pc = .ok (.getfield index, 3)) :
    ∀ target, Steps p.tables e below (T.setTop { g with pc := g.pc + 3, stack := v :: rest }) target → Steps p.tables e below (T.setTop g) target := by
  obtain ⟨cell, cf, k, i, f, h1, h2, h3, h4, -, -, h7⟩ := F
  have hU : Z.Warmed39 T.vm := wtrans hZ X.warmed
  have w0 : (Jvm.Cond.fieldRef own index O n d).before a0 (Z.setVm T.vm) = true := Cond.fieldRef_warmed39 hU w
  have w' : (Jvm.Cond.fieldRef own index O n d).before args T = true := w0
  have hc : T.vm.findClass own = some m.cls := by rw [X.warmed.alike.findClass]; exact hown
  obtain ⟨c', k', i', f', q1, q2⟩ := Cond.fieldRef_spec hc w'
  obtain ⟨k2, hi, -⟩ := State.fieldFound?_setVm (s := Z) hU.alike h2
  have hi' : T.fieldFound? O n d = some (cf, k2, i, f) := hi
  cases q1.symm.trans hi'
  intro target ht
  exact (X.getfieldR hx hg q2 h3 hs (by rw [eT]; exact h1) h4 h7 hd (Steps.refl _)).trans ht
end Own
theorem own_feq {args : Array Value} {s : State} {t : Term} {x : Addr} {C n d : String} {k : Int32} (ht : t.eval args s none [] s = some (.ref x)) (h : (Jvm.Cond.eq (Term.field t C n d) (Term.int k)).value args s none s [] = some true) : Fld s s.heap x C n d (.int k) := by
  have e1 := Cond.eq_int (beq_iff_eq.mpr h) (Term.int_eval k)
  rw [fld_at ht] at e1
  exact Fld.start e1
theorem own_len {args : Array Value} {s : State} {t : Term} {x : Addr} {cl : Cell} {ty : FieldType} {k : Int32} (ht : t.eval args s none [] s = some (.ref x)) (A : Arr s s.heap x cl ty) (h : (Jvm.Cond.eq (Term.length t) (Term.int k)).value args s none s [] = some true) : cl.slots.size < 2 ^ 31 ∧ cl.slots.size.toInt32 = k := by
  have e1 := Cond.eq_int (beq_iff_eq.mpr h) (Term.int_eval k)
  have ha := A.fin (Vm.Alike.refl _)
  have hl : cl.slots.size < 2 ^ 31 := by
    apply Decidable.byContradiction
    intro q
    simp [Term.eval, ht, ha, q] at e1
  rw [len_f ht ha hl] at e1
  exact ⟨hl, by cases e1; rfl⟩
theorem own_el {args : Array Value} {s : State} {t u : Term} {x y : Addr} {cl : Cell} {ty : FieldType} {k : Int32} (ht : t.eval args s none [] s = some (.ref x)) (A : Arr s s.heap x cl ty) (hu : u.eval args s none [] s = some (.ref y)) (h : (Jvm.Cond.eq (Term.elem t (Term.int k)) u).value args s none s [] = some true) : cl.slots[k.toNatClampNeg]? = some (.ref y) := by
  obtain ⟨v, w, e1, e2, k1, k2⟩ := cmp_v (Or.inl h)
  cases hu.symm.trans e2
  have q := (elem_in e1 ht rfl A.1).2
  have r := k2.2
  have := gotT (eq_R e1 e2 r rfl) h
  rw [this] at q
  exact q
def QR (h0 : Heap) (n0 : Nat) (v : Option Value) (h : Heap) (L : List Loc) : Prop := v = none ∧ Fr n0 L ∧ h = h0
def QI (Z : State) (a1 : Addr) (p3 : Int32) (h0 : Heap) (n0 : Nat) (v : Option Value) (h : Heap) (L : List Loc) : Prop := v = none ∧ Fr n0 L ∧ Keep h0 h [a1] ∧ Fld Z h a1 "com/example/ballast_ledger/ballastledger/CreditRating" "notch" "I" (.int p3)
def QS (z : Int32) (h0 : Heap) (n0 : Nat) (v : Option Value) (h : Heap) (L : List Loc) : Prop := v = some (.int z) ∧ Fr n0 L ∧ h = h0
def Q0 (n0 : Nat) (v : Option Value) (h : Heap) (L : List Loc) : Prop := v = some (.int 1) ∧ Fr n0 L
theorem pn_0 : plainFor (⟨"com/example/ballast_ledger/ballastledger/CreditRatingIsBelowPinLaw", "law", "(IIII)Z"⟩ : MethodName) = true := plainFor_of_name (by first | (simp [plainName, overriddenIn]; done) | decide +kernel)
theorem d1_0 : decode prog_4_method_1_code 0 = .ok (.aload_n 0, 1) := by decide +kernel
theorem d1_1 : decode prog_4_method_1_code 1 = .ok (.invokespecial 1, 3) := by decide +kernel
theorem d1_4 : decode prog_4_method_1_code 4 = .ok (.iload_n 2, 1) := by decide +kernel
theorem d1_5 : decode prog_4_method_1_code 5 = .ok (.ifCond .lt 16, 3) := by decide +kernel
theorem d1_8 : decode prog_4_method_1_code 8 = .ok (.iload_n 2, 1) := by decide +kernel
theorem d1_9 : decode prog_4_method_1_code 9 = .ok (.aload_n 1, 1) := by decide +kernel
theorem d1_10 : decode prog_4_method_1_code 10 = .ok (.getfield 7, 3) := by decide +kernel
theorem d1_13 : decode prog_4_method_1_code 13 = .ok (.invokeinterface 13 1, 5) := by decide +kernel
theorem d1_18 : decode prog_4_method_1_code 18 = .ok (.if_icmp .lt 21, 3) := by decide +kernel
theorem d1_21 : decode prog_4_method_1_code 21 = .ok (.new 19, 3) := by decide +kernel
theorem d1_24 : decode prog_4_method_1_code 24 = .ok (.dup, 1) := by decide +kernel
theorem d1_25 : decode prog_4_method_1_code 25 = .ok (.aload_n 1, 1) := by decide +kernel
theorem d1_26 : decode prog_4_method_1_code 26 = .ok (.getfield 21, 3) := by decide +kernel
theorem d1_29 : decode prog_4_method_1_code 29 = .ok (.iload_n 2, 1) := by decide +kernel
theorem d1_35 : decode prog_4_method_1_code 35 = .ok (.invokespecial 29, 3) := by decide +kernel
theorem d1_38 : decode prog_4_method_1_code 38 = .ok (.athrow, 1) := by decide +kernel
theorem d1_39 : decode prog_4_method_1_code 39 = .ok (.aload_n 0, 1) := by decide +kernel
theorem d1_40 : decode prog_4_method_1_code 40 = .ok (.aload_n 1, 1) := by decide +kernel
theorem d1_41 : decode prog_4_method_1_code 41 = .ok (.putfield 32, 3) := by decide +kernel
theorem d1_44 : decode prog_4_method_1_code 44 = .ok (.aload_n 0, 1) := by decide +kernel
theorem d1_45 : decode prog_4_method_1_code 45 = .ok (.iload_n 2, 1) := by decide +kernel
theorem d1_46 : decode prog_4_method_1_code 46 = .ok (.putfield 38, 3) := by decide +kernel
theorem d1_49 : decode prog_4_method_1_code 49 = .ok (.return_, 1) := by decide +kernel
theorem pn_1 : plainFor (⟨"com/example/ballast_ledger/ballastledger/CreditRating", "<init>", "(Lcom/example/ballast_ledger/ballastledger/CreditRating$Agency;I)V"⟩ : MethodName) = true := plainFor_of_name (by first | (simp [plainName, overriddenIn]; done) | decide +kernel)
theorem d2_0 : decode jdk_30_method_1_code 0 = .ok (.aload_n 0, 1) := by decide +kernel
theorem d2_1 : decode jdk_30_method_1_code 1 = .ok (.invokespecial 1, 3) := by decide +kernel
theorem d2_4 : decode jdk_30_method_1_code 4 = .ok (.return_, 1) := by decide +kernel
theorem pn_2 : plainFor (⟨"java/lang/Record", "<init>", "()V"⟩ : MethodName) = true := plainFor_of_name (by first | (simp [plainName, overriddenIn]; done) | decide +kernel)
theorem d4_0 : decode jdk_45_method_3_code 0 = .ok (.aload_n 0, 1) := by decide +kernel
theorem d4_1 : decode jdk_45_method_3_code 1 = .ok (.getfield 7, 3) := by decide +kernel
theorem d4_4 : decode jdk_45_method_3_code 4 = .ok (.arraylength, 1) := by decide +kernel
theorem d4_5 : decode jdk_45_method_3_code 5 = .ok (.ireturn, 1) := by decide +kernel
theorem pn_4 : plainFor (⟨"java/util/ImmutableCollections$ListN", "size", "()I"⟩ : MethodName) = true := plainFor_of_name (by first | (simp [plainName, overriddenIn]; done) | decide +kernel)
theorem d5_0 : decode prog_4_method_3_code 0 = .ok (.aload_n 0, 1) := by decide +kernel
theorem d5_1 : decode prog_4_method_3_code 1 = .ok (.getfield 38, 3) := by decide +kernel
theorem d5_4 : decode prog_4_method_3_code 4 = .ok (.aload_n 1, 1) := by decide +kernel
theorem d5_5 : decode prog_4_method_3_code 5 = .ok (.getfield 38, 3) := by decide +kernel
theorem d5_8 : decode prog_4_method_3_code 8 = .ok (.if_icmp .le 7, 3) := by decide +kernel
theorem d5_11 : decode prog_4_method_3_code 11 = .ok (.iconst 1, 1) := by decide +kernel
theorem d5_12 : decode prog_4_method_3_code 12 = .ok (.goto 4, 3) := by decide +kernel
theorem d5_15 : decode prog_4_method_3_code 15 = .ok (.iconst 0, 1) := by decide +kernel
theorem d5_16 : decode prog_4_method_3_code 16 = .ok (.ireturn, 1) := by decide +kernel
theorem pn_5 : plainFor (⟨"com/example/ballast_ledger/ballastledger/CreditRating", "isBelow", "(Lcom/example/ballast_ledger/ballastledger/CreditRating;)Z"⟩ : MethodName) = true := plainFor_of_name (by first | (simp [plainName, overriddenIn]; done) | decide +kernel)
theorem own_rem22 (x : Int32) : ¬ ((x &&& (2147483647 : Int32)) % (22 : Int32)) < (0 : Int32) ∧ ((x &&& (2147483647 : Int32)) % (22 : Int32)) < (22 : Int32) := by
  have a1 := c_mask x 2147483647 31 (by decide) (by decide)
  have a2 := c_irem (x &&& 2147483647) 22 22 rfl
  have e1 : ((2 ^ 31 : Nat) : Int) = 2147483648 := rfl
  rw [e1] at a1
  rw [Int32.lt_iff_toInt_lt, Int32.lt_iff_toInt_lt]
  have e2 : (0 : Int32).toInt = 0 := rfl
  have e3 : (22 : Int32).toInt = 22 := rfl
  rw [e2, e3]
  omega
theorem own_rem21 (x : Int32) : ¬ ((x &&& (2147483647 : Int32)) % (21 : Int32)) < (0 : Int32) ∧ ((x &&& (2147483647 : Int32)) % (21 : Int32)) < (21 : Int32) := by
  have a1 := c_mask x 2147483647 31 (by decide) (by decide)
  have a2 := c_irem (x &&& 2147483647) 21 21 rfl
  have e1 : ((2 ^ 31 : Nat) : Int) = 2147483648 := rfl
  rw [e1] at a1
  rw [Int32.lt_iff_toInt_lt, Int32.lt_iff_toInt_lt]
  have e2 : (0 : Int32).toInt = 0 := rfl
  have e3 : (21 : Int32).toInt = 21 := rfl
  rw [e2, e3]
  omega
theorem own_sub {k1 k2 : Int32} (x y : Int32) (hx : ¬ x < (0 : Int32) ∧ x < k1) (hy : ¬ y < (0 : Int32) ∧ y < k2) : (y < x → ¬ (x - y) < (1 : Int32)) ∧ (¬ y < x → (x - y) < (1 : Int32)) := by
  obtain ⟨h1, h2⟩ := hx
  obtain ⟨h3, h4⟩ := hy
  have a := c_isub x y
  have r1 := rng32 x
  have r2 := rng32 y
  have r3 := rng32 (x - y)
  have r4 := rng32 k1
  have r5 := rng32 k2
  rw [Int32.lt_iff_toInt_lt] at h1 h2 h3 h4
  simp only [Int32.lt_iff_toInt_lt]
  have e2 : (0 : Int32).toInt = 0 := rfl
  have e3 : (1 : Int32).toInt = 1 := rfl
  rw [e2] at h1 h3
  rw [e3]
  omega
theorem own_fld {args : Array Value} {s : State} {t : Term} {x y : Addr} {C n d : String} (ht : t.eval args s none [] s = some (.ref x)) (h : (Term.field t C n d).eval args s none [] s = some (.ref y)) : Fld s s.heap x C n d (.ref y) := by
  rw [fld_at ht] at h
  exact Fld.start h
theorem own_siz {cl : Cell} {k : Int32} (h : cl.slots.size < 2 ^ 31 ∧ cl.slots.size.toInt32 = k) : cl.slots.size = k.toNatClampNeg := by
  rw [← h.2]; simp only [Int32.toNatClampNeg, len_toInt h.1]; rfl
theorem own_pd0 : parseMethodDescriptor "()V" = some ⟨[], none⟩ := by decide +kernel
theorem own_pd1 : parseMethodDescriptor "()I" = some ⟨[], some .int⟩ := by decide +kernel
theorem own_pd2 : parseMethodDescriptor "(Lcom/example/ballast_ledger/ballastledger/CreditRating$Agency;I)V" = some ⟨[(.object "com/example/ballast_ledger/ballastledger/CreditRating$Agency"), .int], none⟩ := by decide +kernel
theorem own_pd3 : parseMethodDescriptor "(Lcom/example/ballast_ledger/ballastledger/CreditRating;)Z" = some ⟨[(.object "com/example/ballast_ledger/ballastledger/CreditRating")], some .boolean⟩ := by decide +kernel
set_option maxRecDepth 65536 in
set_option maxHeartbeats 40000000 in
theorem rm2 (l : Launch) (Z : State) (a0 : Array Value) (hw : ∀ d ∈ tables_1, d.before a0 Z = true) (ws : List Jvm.Cond) (a1 : Addr)  (h0 : Heap) (n0 : Nat) (Z0 : n0 ≤ h0.size) :
    MetFree l (⟨"java/lang/Record", "<init>", "()V"⟩ : MethodName) (head1 (Jvm.Cond.code (⟨"java/lang/Record", "<init>", "()V"⟩ : MethodName) jdk_30_method_1_code 1 none :: ws) ({ frames := 1, cells := 0, slots := 0, locals := 12 } : Room)) (fun a U => a = #[(.ref a1)] ∧ Z.Warmed39 U.vm ∧ U.heap = h0) (fun _ _ _ _ _ => True) (fun _ U o U' => ∃ v L, o = .returned v ∧ QR h0 n0 v U'.heap L ∧ FrameEnd U o U' L ({ frames := 1, cells := 0, slots := 0, locals := 12 } : Room).cells ({ frames := 1, cells := 0, slots := 0, locals := 12 } : Room).slots) := by
  refine MetFree.of_bodySF pn_2 hisR ?_
  intro p e s m args below meth c s₁ Bd hml0 hP hK
  obtain ⟨rfl, hZ, hh⟩ := hP
  have hx := Bd.exec
  have hby := Bd.bytes
  have hml : c.maxLocals = 1 := hml0
  have hown : s.vm.findClass "java/lang/Record" = some m.cls := findClass_of_methodNamed Bd.named
  have hnm := (name_of_methodNamed Bd.named Bd.method).1
  have hlk : meth.locks = false := BodyLoose.notSynchronized Bd
  have X0 : Stand p l e ({ frames := 1, cells := 0, slots := 0, locals := 12 } : Room) s m #[(.ref a1)] below meth c s₁ [] 0 0 := Stand.of_body Bd
  have e0 : s₁.heap = h0 := by rw [← hh, Bd.state]; rfl
  have N0 := Fr.nil n0
  show own_Fin p e below (own_P (QR h0 n0) s ({ frames := 1, cells := 0, slots := 0, locals := 12 } : Room).cells ({ frames := 1, cells := 0, slots := 0, locals := 12 } : Room).slots) (s₁.setTop (entryFrame m #[(.ref a1)] 1))
  rw [show entryFrame m #[(.ref a1)] 1 = mkF m 0 #[.val (.ref a1)] [] from by first | (simp [entryFrame, mkF, argsToLocals, Value.category]; done) | rfl]
  refine own_go ?_ (fun tq kt => XS.aloadN X0.here hx rfl (hb hby d2_0) rfl rfl kt)
  show own_Fin _ _ _ _ (s₁.setTop (mkF m 1 #[.val (.ref a1)] [(.ref a1)]))
  obtain ⟨T1, X1, e1, st1⟩ := initO X0 hx hZ hown (hw _ (List.mem_of_getElem? (i := 15) rfl)) (hw _ (List.mem_of_getElem? (i := 16) rfl)) (hw _ (List.mem_of_getElem? (i := 17) rfl)) e0 (g := (mkF m 1 #[.val (.ref a1)] [(.ref a1)])) rfl (by rw [hml]; rfl) rfl (hb hby d2_1) (by decide) (W := 0) (by show 2 * 0 + _ ≤ _; exact Nat.le_of_eq rfl) (by decide)
  refine own_go ?_ (fun tq kt => st1 _ kt)
  show own_Fin _ _ _ _ (T1.setTop (mkF m 4 #[.val (.ref a1)] []))
  refine own_retV X1 hx Bd.returns (hb hby d2_4) hlk ?_ (by decide) (by decide)
  show QR h0 n0 _ T1.heap _
  rw [e1]
  exact ⟨rfl, N0, rfl⟩
set_option maxRecDepth 65536 in
set_option maxHeartbeats 40000000 in
theorem rm4 (l : Launch) (Z : State) (a0 : Array Value) (hw : ∀ d ∈ tables_1, d.before a0 Z = true) (ws : List Jvm.Cond) (sc : Addr) (el : Addr) (cl : Cell) (k : Int32) (h0 : Heap) (n0 : Nat) (Z0 : n0 ≤ h0.size) (O0 : Old Z n0 h0) (FE : Fld Z Z.heap sc "java/util/ImmutableCollections$ListN" "elements" "[Ljava/lang/Object;" (.ref el)) (AR : Arr Z Z.heap el cl (.object "java/lang/Object")) (AS : cl.slots.size = k.toNatClampNeg) (AM : ¬ k < 0) :
    MetFree l (⟨"java/util/ImmutableCollections$ListN", "size", "()I"⟩ : MethodName) (head1 (Jvm.Cond.code (⟨"java/util/ImmutableCollections$ListN", "size", "()I"⟩ : MethodName) jdk_45_method_3_code 1 (some .int) :: ws) ({ frames := 0, cells := 0, slots := 0, locals := 0 } : Room)) (fun a U => a = #[(.ref sc)] ∧ Z.Warmed39 U.vm ∧ U.heap = h0) (fun _ _ _ _ _ => True) (fun _ U o U' => ∃ v L, o = .returned v ∧ QS k h0 n0 v U'.heap L ∧ FrameEnd U o U' L ({ frames := 0, cells := 0, slots := 0, locals := 0 } : Room).cells ({ frames := 0, cells := 0, slots := 0, locals := 0 } : Room).slots) := by
  refine MetFree.of_bodySF pn_4 hisR ?_
  intro p e s m args below meth c s₁ Bd hml0 hP hK
  obtain ⟨rfl, hZ, hh⟩ := hP
  have hx := Bd.exec
  have hby := Bd.bytes
  have hml : c.maxLocals = 1 := hml0
  have hown : s.vm.findClass "java/util/ImmutableCollections$ListN" = some m.cls := findClass_of_methodNamed Bd.named
  have hnm := (name_of_methodNamed Bd.named Bd.method).1
  have hlk : meth.locks = false := BodyLoose.notSynchronized Bd
  have X0 : Stand p l e ({ frames := 0, cells := 0, slots := 0, locals := 0 } : Room) s m #[(.ref sc)] below meth c s₁ [] 0 0 := Stand.of_body Bd
  have e0 : s₁.heap = h0 := by rw [← hh, Bd.state]; rfl
  have N0 := Fr.nil n0
  show own_Fin p e below (own_P (QS k h0 n0) s ({ frames := 0, cells := 0, slots := 0, locals := 0 } : Room).cells ({ frames := 0, cells := 0, slots := 0, locals := 0 } : Room).slots) (s₁.setTop (entryFrame m #[(.ref sc)] 1))
  rw [show entryFrame m #[(.ref sc)] 1 = mkF m 0 #[.val (.ref sc)] [] from by first | (simp [entryFrame, mkF, argsToLocals, Value.category]; done) | rfl]
  refine own_go ?_ (fun tq kt => XS.aloadN X0.here hx rfl (hb hby d4_0) rfl rfl kt)
  show own_Fin _ _ _ _ (s₁.setTop (mkF m 1 #[.val (.ref sc)] [(.ref sc)]))
  obtain ⟨T2, X2, e2, st2⟩ := getF X0 hx hZ hown (host := "") (Or.inl (hw _ (List.mem_of_getElem? (i := 30) rfl))) Via.refl e0 (FE.ext O0.2) (g := (mkF m 1 #[.val (.ref sc)] [(.ref sc)])) rfl rfl (hb hby d4_1)
  refine own_go ?_ (fun tq kt => st2 _ kt)
  show own_Fin _ _ _ _ (T2.setTop (mkF m 4 #[.val (.ref sc)] [(.ref el)]))
  refine own_go ?_ (fun tq kt => X2.arraylength hx (by rw [e2]; exact (AR.ext O0.2).1) (State.isArrayOf_alike hZ.alike (AR.ext O0.2).2.1) (g := (mkF m 4 #[.val (.ref sc)] [(.ref el)])) rfl rfl (hb hby d4_4) _ (by rw [len_of AS AM]; exact kt))
  show own_Fin _ _ _ _ (T2.setTop (mkF m 5 #[.val (.ref sc)] [(.int k)]))
  refine own_retO X2 hx (t := .int) Bd.returns rfl (Or.inl ⟨rfl, Or.inl rfl, _, rfl⟩) (hb hby d4_5) hlk ?_ (by decide) (by decide)
  show QS k h0 n0 _ T2.heap _
  rw [e2]
  exact ⟨rfl, N0, rfl⟩
set_option maxRecDepth 65536 in
set_option maxHeartbeats 40000000 in
theorem rm1 (l : Launch) (Z : State) (a0 : Array Value) (hw : ∀ d ∈ tables_1, d.before a0 Z = true) (ws : List Jvm.Cond) (a1 : Addr) (ag : Addr) (p3 : Int32) (sc : Addr) (el : Addr) (cl : Cell) (k : Int32) (h0 : Heap) (n0 : Nat) (Z0 : n0 ≤ h0.size) (O0 : Old Z n0 h0) (E1 : Exa Z h0 a1 "com/example/ballast_ledger/ballastledger/CreditRating") (F1 : Fld Z h0 a1 "com/example/ballast_ledger/ballastledger/CreditRating" "agency" "Lcom/example/ballast_ledger/ballastledger/CreditRating$Agency;" .null) (F2 : Fld Z h0 a1 "com/example/ballast_ledger/ballastledger/CreditRating" "notch" "I" (.int (0 : Int32))) (g1 : n0 ≤ a1) (FS : Fld Z Z.heap ag "com/example/ballast_ledger/ballastledger/CreditRating$Agency" "scale" "Ljava/util/List;" (.ref sc)) (ES : Exa Z Z.heap sc "java/util/ImmutableCollections$ListN") (FE : Fld Z Z.heap sc "java/util/ImmutableCollections$ListN" "elements" "[Ljava/lang/Object;" (.ref el)) (AR : Arr Z Z.heap el cl (.object "java/lang/Object")) (AS : cl.slots.size = k.toNatClampNeg) (AM : ¬ k < 0) (hn0 : ¬ p3 < (0 : Int32)) (hnk : p3 < k) :
    MetFree l (⟨"com/example/ballast_ledger/ballastledger/CreditRating", "<init>", "(Lcom/example/ballast_ledger/ballastledger/CreditRating$Agency;I)V"⟩ : MethodName) (head1 (Jvm.Cond.code (⟨"com/example/ballast_ledger/ballastledger/CreditRating", "<init>", "(Lcom/example/ballast_ledger/ballastledger/CreditRating$Agency;I)V"⟩ : MethodName) prog_4_method_1_code 3 none :: ws) ({ frames := 2, cells := 0, slots := 0, locals := 24 } : Room)) (fun a U => a = #[(.ref a1), (.ref ag), (.int p3)] ∧ Z.Warmed39 U.vm ∧ U.heap = h0) (fun _ _ _ _ _ => True) (fun _ U o U' => ∃ v L, o = .returned v ∧ QI Z a1 p3 h0 n0 v U'.heap L ∧ FrameEnd U o U' L ({ frames := 2, cells := 0, slots := 0, locals := 24 } : Room).cells ({ frames := 2, cells := 0, slots := 0, locals := 24 } : Room).slots) := by
  refine MetFree.of_bodySF pn_1 hisR ?_
  intro p e s m args below meth c s₁ Bd hml0 hP hK
  obtain ⟨rfl, hZ, hh⟩ := hP
  have hx := Bd.exec
  have hby := Bd.bytes
  have hml : c.maxLocals = 3 := hml0
  have hown : s.vm.findClass "com/example/ballast_ledger/ballastledger/CreditRating" = some m.cls := findClass_of_methodNamed Bd.named
  have hnm := (name_of_methodNamed Bd.named Bd.method).1
  have hlk : meth.locks = false := BodyLoose.notSynchronized Bd
  have X0 : Stand p l e ({ frames := 2, cells := 0, slots := 0, locals := 24 } : Room) s m #[(.ref a1), (.ref ag), (.int p3)] below meth c s₁ [] 0 0 := Stand.of_body Bd
  have e0 : s₁.heap = h0 := by rw [← hh, Bd.state]; rfl
  have N0 := Fr.nil n0
  show own_Fin p e below (own_P (QI Z a1 p3 h0 n0) s ({ frames := 2, cells := 0, slots := 0, locals := 24 } : Room).cells ({ frames := 2, cells := 0, slots := 0, locals := 24 } : Room).slots) (s₁.setTop (entryFrame m #[(.ref a1), (.ref ag), (.int p3)] 3))
  rw [show entryFrame m #[(.ref a1), (.ref ag), (.int p3)] 3 = mkF m 0 #[.val (.ref a1), .val (.ref ag), .val (.int p3)] [] from by first | (simp [entryFrame, mkF, argsToLocals, Value.category]; done) | rfl]
  have kp0 := Keep.refl h0 [a1]
  refine own_go ?_ (fun tq kt => XS.aloadN X0.here hx rfl (hb hby d1_0) rfl rfl kt)
  show own_Fin _ _ _ _ (s₁.setTop (mkF m 1 #[.val (.ref a1), .val (.ref ag), .val (.int p3)] [(.ref a1)]))
  obtain ⟨_, _, ⟨T3, L3, k3, n3⟩, -, X3, ⟨Lc3, hQ3, l3, y3, z3⟩, st3⟩ := X0.specialBack hx (y := (⟨"java/lang/Record", "<init>", "()V"⟩ : MethodName)) rfl hown (mvT hZ (hw _ (List.mem_of_getElem? (i := 10) rfl))) (mvT hZ (hw _ (List.mem_of_getElem? (i := 11) rfl))) (mvT hZ (hw _ (List.mem_of_getElem? (i := 14) rfl))) (by decide) (backOf (W := 0) (rm2 l Z a0 hw [] a1 h0 n0 Z0) hZ (hw _ (List.mem_of_getElem? (i := 14) rfl)) (hw _ (List.mem_of_getElem? (i := 13) rfl)) (by decide) (by decide)) (g := (mkF m 1 #[.val (.ref a1), .val (.ref ag), .val (.int p3)] [(.ref a1)])) rfl (by rw [hml]; rfl) (Steps.refl _) (a := a1) (argsL := []) (rest := []) (lenOf own_pd0 rfl) rfl (by show 2 * 0 + _ ≤ _; exact Nat.le_of_eq rfl) (hb hby d1_1) (fun _ _ => ⟨rfl, e0, (by decide : 0 + 0 ≤ _), (by decide : 0 + 0 ≤ _)⟩)
  dsimp only [Pt.U, Pt.locs, Pt.cells, Pt.slots] at X3 l3 y3 z3 st3 hQ3
  subst l3 y3 z3
  obtain ⟨rfl, N3q, e3⟩ := hQ3
  have N3 := Fr.app N0 N3q
  refine own_go ?_ (fun tq kt => st3.trans kt)
  show own_Fin _ _ _ _ (T3.setTop (mkF m 4 #[.val (.ref a1), .val (.ref ag), .val (.int p3)] []))
  refine own_go ?_ (fun tq kt => XS.iloadN X3.here hx rfl (hb hby d1_4) rfl kt)
  show own_Fin _ _ _ _ (T3.setTop (mkF m 5 #[.val (.ref a1), .val (.ref ag), .val (.int p3)] [(.int p3)]))
  refine own_go ?_ (fun tq kt => XS.ifNo X3.here hx rfl (hb hby d1_5) rfl ((if0 _ _).trans (flt (hn0 : ¬ (p3 < (0 : Int32)))).1) kt)
  show own_Fin _ _ _ _ (T3.setTop (mkF m 8 #[.val (.ref a1), .val (.ref ag), .val (.int p3)] []))
  refine own_go ?_ (fun tq kt => XS.iloadN X3.here hx rfl (hb hby d1_8) rfl kt)
  show own_Fin _ _ _ _ (T3.setTop (mkF m 9 #[.val (.ref a1), .val (.ref ag), .val (.int p3)] [(.int p3)]))
  refine own_go ?_ (fun tq kt => XS.aloadN X3.here hx rfl (hb hby d1_9) rfl rfl kt)
  show own_Fin _ _ _ _ (T3.setTop (mkF m 10 #[.val (.ref a1), .val (.ref ag), .val (.int p3)] [(.ref ag), (.int p3)]))
  refine own_go ?_ (fun tq kt => own_getR X3 hx hZ hown (hw _ (List.mem_of_getElem? (i := 18) rfl)) e3 (FS.ext O0.2) (g := (mkF m 10 #[.val (.ref a1), .val (.ref ag), .val (.int p3)] [(.ref ag), (.int p3)])) rfl rfl (hb hby d1_10) _ kt)
  show own_Fin _ _ _ _ (T3.setTop (mkF m 13 #[.val (.ref a1), .val (.ref ag), .val (.int p3)] [(.ref sc), (.int p3)]))
  obtain ⟨cq4, kq4, q4a, q4b, q4c⟩ := isOf hZ e3 (ES.ext O0.2)
  obtain ⟨_, _, ⟨T4, L4, k4, n4⟩, -, X4, ⟨Lc4, hQ4, l4, y4, z4⟩, st4⟩ := X3.interfaceBack hx (xi := (⟨"java/util/List", "size", "()I"⟩ : MethodName)) (y := (⟨"java/util/ImmutableCollections$ListN", "size", "()I"⟩ : MethodName)) hown (mvT hZ (hw _ (List.mem_of_getElem? (i := 20) rfl))) (mvT hZ (hw _ (List.mem_of_getElem? (i := 21) rfl))) (mvT hZ (hw _ (List.mem_of_getElem? (i := 22) rfl))) (mvT hZ (hw _ (List.mem_of_getElem? (i := 23) rfl))) (mvT hZ (hw _ (List.mem_of_getElem? (i := 24) rfl))) (mvT hZ (hw _ (List.mem_of_getElem? (i := 25) rfl))) (mvT hZ (hw _ (List.mem_of_getElem? (i := 26) rfl))) (mvT hZ (hw _ (List.mem_of_getElem? (i := 27) rfl))) (by decide) (backOf (W := 1) (rm4 l Z a0 hw [] sc el cl k h0 n0 Z0 O0 FE AR AS AM) hZ (hw _ (List.mem_of_getElem? (i := 29) rfl)) (hw _ (List.mem_of_getElem? (i := 28) rfl)) (by decide) (by decide)) q4a q4b q4c (g := (mkF m 13 #[.val (.ref a1), .val (.ref ag), .val (.int p3)] [(.ref sc), (.int p3)])) rfl (by rw [hml]; rfl) (Steps.refl _) (argsL := []) (rest := [(.int p3)]) (lenOf own_pd1 rfl) rfl (by show 2 * 0 + _ ≤ _; exact Nat.le_of_eq rfl) (hb hby d1_13) (fun _ _ => ⟨rfl, e3, (by decide : 0 + 0 ≤ _), (by decide : 0 + 0 ≤ _)⟩)
  dsimp only [Pt.U, Pt.locs, Pt.cells, Pt.slots] at X4 l4 y4 z4 st4 hQ4
  subst l4 y4 z4
  obtain ⟨rfl, N4q, e4⟩ := hQ4
  have N4 := Fr.app N3 N4q
  refine own_go ?_ (fun tq kt => st4.trans kt)
  show own_Fin _ _ _ _ (T4.setTop (mkF m 18 #[.val (.ref a1), .val (.ref ag), .val (.int p3)] [(.int k), (.int p3)]))
  refine own_go ?_ (fun tq kt => XS.icmpYes X4.here hx rfl (pc0 := 18) (pc' := 39) rfl (hb hby d1_18) rfl (tlt (hnk : p3 < k)).1 (by decide) (by decide) kt)
  show own_Fin _ _ _ _ (T4.setTop (mkF m 39 #[.val (.ref a1), .val (.ref ag), .val (.int p3)] []))
  refine own_go ?_ (fun tq kt => XS.aloadN X4.here hx rfl (hb hby d1_39) rfl rfl kt)
  show own_Fin _ _ _ _ (T4.setTop (mkF m 40 #[.val (.ref a1), .val (.ref ag), .val (.int p3)] [(.ref a1)]))
  refine own_go ?_ (fun tq kt => XS.aloadN X4.here hx rfl (hb hby d1_40) rfl rfl kt)
  show own_Fin _ _ _ _ (T4.setTop (mkF m 41 #[.val (.ref a1), .val (.ref ag), .val (.int p3)] [(.ref ag), (.ref a1)]))
  obtain ⟨T5, h5, X5, e5, W5, st5⟩ := putF X4 hx hZ hown (host := "") (Or.inl (hw _ (List.mem_of_getElem? (i := 32) rfl))) Via.refl e4 F1 E1 (Or.inr ⟨(hw _ (List.mem_of_getElem? (i := 33) rfl)), rfl, hnm⟩) (hw _ (List.mem_of_getElem? (i := 5) rfl)) (ty := (.object "com/example/ballast_ledger/ballastledger/CreditRating$Agency")) (by decide) rfl rfl (g := (mkF m 41 #[.val (.ref a1), .val (.ref ag), .val (.int p3)] [(.ref ag), (.ref a1)])) rfl rfl (hb hby d1_41)
  have zs6 := Nat.le_trans Z0 (Keep.of_wr W5).1
  have od6 := O0.wr W5 g1
  have kp6 : Keep h0 h5 [a1] := kp0.wr W5 (Or.inl (List.mem_of_getElem? (i := 0) rfl))
  have Fw5 := (F1).same W5
  have N5 := Fr.snoc X5 N4 g1
  refine own_go ?_ (fun tq kt => st5 _ kt)
  show own_Fin _ _ _ _ (T5.setTop (mkF m 44 #[.val (.ref a1), .val (.ref ag), .val (.int p3)] []))
  refine own_go ?_ (fun tq kt => XS.aloadN X5.here hx rfl (hb hby d1_44) rfl rfl kt)
  show own_Fin _ _ _ _ (T5.setTop (mkF m 45 #[.val (.ref a1), .val (.ref ag), .val (.int p3)] [(.ref a1)]))
  refine own_go ?_ (fun tq kt => XS.iloadN X5.here hx rfl (hb hby d1_45) rfl kt)
  show own_Fin _ _ _ _ (T5.setTop (mkF m 46 #[.val (.ref a1), .val (.ref ag), .val (.int p3)] [(.int p3), (.ref a1)]))
  obtain ⟨T7, h7, X7, e7, W7, st7⟩ := putF X5 hx hZ hown (host := "") (Or.inl (hw _ (List.mem_of_getElem? (i := 34) rfl))) Via.refl e5 (F2.other W5 (Or.inr (slot_ne (Or.inr (hw _ (List.mem_of_getElem? (i := 35) rfl))) (Or.inr (hw _ (List.mem_of_getElem? (i := 33) rfl))) (by decide) (t := .int) (t' := (.object "com/example/ballast_ledger/ballastledger/CreditRating$Agency")) (by decide) (by decide)))) (E1.wr W5) (Or.inr ⟨(hw _ (List.mem_of_getElem? (i := 35) rfl)), rfl, hnm⟩) (hw _ (List.mem_of_getElem? (i := 5) rfl)) (ty := .int) (by decide) rfl rfl (g := (mkF m 46 #[.val (.ref a1), .val (.ref ag), .val (.int p3)] [(.int p3), (.ref a1)])) rfl rfl (hb hby d1_46)
  have zs8 := Nat.le_trans zs6 (Keep.of_wr W7).1
  have od8 := od6.wr W7 g1
  have kp8 : Keep h0 h7 [a1] := kp6.wr W7 (Or.inl (List.mem_of_getElem? (i := 0) rfl))
  have Fw7 := ((F2.other W5 (Or.inr (slot_ne (Or.inr (hw _ (List.mem_of_getElem? (i := 35) rfl))) (Or.inr (hw _ (List.mem_of_getElem? (i := 33) rfl))) (by decide) (t := .int) (t' := (.object "com/example/ballast_ledger/ballastledger/CreditRating$Agency")) (by decide) (by decide))))).same W7
  have N7 := Fr.snoc X7 N5 g1
  refine own_go ?_ (fun tq kt => st7 _ kt)
  show own_Fin _ _ _ _ (T7.setTop (mkF m 49 #[.val (.ref a1), .val (.ref ag), .val (.int p3)] []))
  refine own_retV X7 hx Bd.returns (hb hby d1_49) hlk ?_ (by decide) (by decide)
  show QI Z a1 p3 h0 n0 _ T7.heap _
  rw [e7]
  exact ⟨rfl, N7, kp8, Fw7⟩
set_option maxRecDepth 65536 in
set_option maxHeartbeats 40000000 in
theorem rm5 (l : Launch) (Z : State) (a0 : Array Value) (hw : ∀ d ∈ tables_1, d.before a0 Z = true) (ws : List Jvm.Cond) (a1 : Addr) (a2 : Addr) (pa : Int32) (pb : Int32) (z : Int32) (h0 : Heap) (n0 : Nat) (Z0 : n0 ≤ h0.size) (F1 : Fld Z h0 a1 "com/example/ballast_ledger/ballastledger/CreditRating" "notch" "I" (.int pa)) (F2 : Fld Z h0 a2 "com/example/ballast_ledger/ballastledger/CreditRating" "notch" "I" (.int pb)) (hz : (pb < pa → z = 1) ∧ (¬ pb < pa → z = 0)) :
    MetFree l (⟨"com/example/ballast_ledger/ballastledger/CreditRating", "isBelow", "(Lcom/example/ballast_ledger/ballastledger/CreditRating;)Z"⟩ : MethodName) (head1 (Jvm.Cond.code (⟨"com/example/ballast_ledger/ballastledger/CreditRating", "isBelow", "(Lcom/example/ballast_ledger/ballastledger/CreditRating;)Z"⟩ : MethodName) prog_4_method_3_code 2 (some .boolean) :: ws) ({ frames := 0, cells := 0, slots := 0, locals := 0 } : Room)) (fun a U => a = #[(.ref a1), (.ref a2)] ∧ Z.Warmed39 U.vm ∧ U.heap = h0) (fun _ _ _ _ _ => True) (fun _ U o U' => ∃ v L, o = .returned v ∧ QS z h0 n0 v U'.heap L ∧ FrameEnd U o U' L ({ frames := 0, cells := 0, slots := 0, locals := 0 } : Room).cells ({ frames := 0, cells := 0, slots := 0, locals := 0 } : Room).slots) := by
  refine MetFree.of_bodySF pn_5 hisR ?_
  intro p e s m args below meth c s₁ Bd hml0 hP hK
  obtain ⟨rfl, hZ, hh⟩ := hP
  have hx := Bd.exec
  have hby := Bd.bytes
  have hml : c.maxLocals = 2 := hml0
  have hown : s.vm.findClass "com/example/ballast_ledger/ballastledger/CreditRating" = some m.cls := findClass_of_methodNamed Bd.named
  have hnm := (name_of_methodNamed Bd.named Bd.method).1
  have hlk : meth.locks = false := BodyLoose.notSynchronized Bd
  have X0 : Stand p l e ({ frames := 0, cells := 0, slots := 0, locals := 0 } : Room) s m #[(.ref a1), (.ref a2)] below meth c s₁ [] 0 0 := Stand.of_body Bd
  have e0 : s₁.heap = h0 := by rw [← hh, Bd.state]; rfl
  have N0 := Fr.nil n0
  show own_Fin p e below (own_P (QS z h0 n0) s ({ frames := 0, cells := 0, slots := 0, locals := 0 } : Room).cells ({ frames := 0, cells := 0, slots := 0, locals := 0 } : Room).slots) (s₁.setTop (entryFrame m #[(.ref a1), (.ref a2)] 2))
  rw [show entryFrame m #[(.ref a1), (.ref a2)] 2 = mkF m 0 #[.val (.ref a1), .val (.ref a2)] [] from by first | (simp [entryFrame, mkF, argsToLocals, Value.category]; done) | rfl]
  refine own_go ?_ (fun tq kt => XS.aloadN X0.here hx rfl (hb hby d5_0) rfl rfl kt)
  show own_Fin _ _ _ _ (s₁.setTop (mkF m 1 #[.val (.ref a1), .val (.ref a2)] [(.ref a1)]))
  obtain ⟨T9, X9, e9, st9⟩ := getF X0 hx hZ hown (host := "") (Or.inl (hw _ (List.mem_of_getElem? (i := 34) rfl))) Via.refl e0 F1 (g := (mkF m 1 #[.val (.ref a1), .val (.ref a2)] [(.ref a1)])) rfl rfl (hb hby d5_1)
  refine own_go ?_ (fun tq kt => st9 _ kt)
  show own_Fin _ _ _ _ (T9.setTop (mkF m 4 #[.val (.ref a1), .val (.ref a2)] [(.int pa)]))
  refine own_go ?_ (fun tq kt => XS.aloadN X9.here hx rfl (hb hby d5_4) rfl rfl kt)
  show own_Fin _ _ _ _ (T9.setTop (mkF m 5 #[.val (.ref a1), .val (.ref a2)] [(.ref a2), (.int pa)]))
  obtain ⟨T10, X10, e10, st10⟩ := getF X9 hx hZ hown (host := "") (Or.inl (hw _ (List.mem_of_getElem? (i := 34) rfl))) Via.refl e9 F2 (g := (mkF m 5 #[.val (.ref a1), .val (.ref a2)] [(.ref a2), (.int pa)])) rfl rfl (hb hby d5_5)
  refine own_go ?_ (fun tq kt => st10 _ kt)
  show own_Fin _ _ _ _ (T10.setTop (mkF m 8 #[.val (.ref a1), .val (.ref a2)] [(.int pb), (.int pa)]))
  by_cases hc8_11 : pb < pa
  · refine own_go ?_ (fun tq kt => XS.icmpNo X10.here hx rfl (hb hby d5_8) rfl (tlt (hc8_11 : pb < pa)).2.2.2 kt)
    show own_Fin _ _ _ _ (T10.setTop (mkF m 11 #[.val (.ref a1), .val (.ref a2)] []))
    refine own_go ?_ (fun tq kt => XS.iconst X10.here hx rfl (hb hby d5_11) kt)
    show own_Fin _ _ _ _ (T10.setTop (mkF m 12 #[.val (.ref a1), .val (.ref a2)] [(.int (1 : Int32))]))
    refine own_go ?_ (fun tq kt => XS.goto X10.here hx rfl (pc0 := 12) (pc' := 16) rfl (hb hby d5_12) (by decide) (by decide) kt)
    show own_Fin _ _ _ _ (T10.setTop (mkF m 16 #[.val (.ref a1), .val (.ref a2)] [(.int (1 : Int32))]))
    refine own_retN X10 hx (t := .boolean) Bd.returns (by simp) (hb hby d5_16) hlk ?_ (by decide) (by decide)
    show QS z h0 n0 _ T10.heap _
    rw [e10]
    exact ⟨by rw [hz.1 hc8_11]; rfl, N0, rfl⟩
  · refine own_go ?_ (fun tq kt => XS.icmpYes X10.here hx rfl (pc0 := 8) (pc' := 15) rfl (hb hby d5_8) rfl (flt (hc8_11 : ¬ (pb < pa))).2.2.2 (by decide) (by decide) kt)
    show own_Fin _ _ _ _ (T10.setTop (mkF m 15 #[.val (.ref a1), .val (.ref a2)] []))
    refine own_go ?_ (fun tq kt => XS.iconst X10.here hx rfl (hb hby d5_15) kt)
    show own_Fin _ _ _ _ (T10.setTop (mkF m 16 #[.val (.ref a1), .val (.ref a2)] [(.int (0 : Int32))]))
    refine own_retN X10 hx (t := .boolean) Bd.returns (by simp) (hb hby d5_16) hlk ?_ (by decide) (by decide)
    show QS z h0 n0 _ T10.heap _
    rw [e10]
    exact ⟨by rw [hz.2 hc8_11]; rfl, N0, rfl⟩
set_option maxRecDepth 65536 in
set_option maxHeartbeats 40000000 in
theorem rm0 (l : Launch) (Z : State) (a0 : Array Value) (hw : ∀ d ∈ tables_1, d.before a0 Z = true) (ws : List Jvm.Cond) (p1 : Int32) (p2 : Int32) (p3 : Int32) (p4 : Int32) (sp ssc sel : Addr) (scl : Cell) (mo msc mel : Addr) (mcl : Cell) (h0 : Heap) (n0 : Nat) (Z0 : n0 ≤ h0.size) (O0 : Old Z n0 h0) (sSt : Sta Z Z.heap "com/example/ballast_ledger/ballastledger/CreditRating$Agency" "SP" "Lcom/example/ballast_ledger/ballastledger/CreditRating$Agency;" (.ref sp)) (sFS : Fld Z Z.heap sp "com/example/ballast_ledger/ballastledger/CreditRating$Agency" "scale" "Ljava/util/List;" (.ref ssc)) (sES : Exa Z Z.heap ssc "java/util/ImmutableCollections$ListN") (sFE : Fld Z Z.heap ssc "java/util/ImmutableCollections$ListN" "elements" "[Ljava/lang/Object;" (.ref sel)) (sAR : Arr Z Z.heap sel scl (.object "java/lang/Object")) (sAS : scl.slots.size = (22 : Int32).toNatClampNeg) (sAM : ¬ (22 : Int32) < 0) (mSt : Sta Z Z.heap "com/example/ballast_ledger/ballastledger/CreditRating$Agency" "MOODYS" "Lcom/example/ballast_ledger/ballastledger/CreditRating$Agency;" (.ref mo)) (mFS : Fld Z Z.heap mo "com/example/ballast_ledger/ballastledger/CreditRating$Agency" "scale" "Ljava/util/List;" (.ref msc)) (mES : Exa Z Z.heap msc "java/util/ImmutableCollections$ListN") (mFE : Fld Z Z.heap msc "java/util/ImmutableCollections$ListN" "elements" "[Ljava/lang/Object;" (.ref mel)) (mAR : Arr Z Z.heap mel mcl (.object "java/lang/Object")) (mAS : mcl.slots.size = (21 : Int32).toNatClampNeg) (mAM : ¬ (21 : Int32) < 0) :
    MetFree l x (head1 (Jvm.Cond.code x code maxLocals ret :: ws) room_1) (fun a U => a = #[(.int p1), (.int p2), (.int p3), (.int p4)] ∧ Z.Warmed39 U.vm ∧ U.heap = h0) (fun _ _ _ _ _ => True) (fun _ U o U' => ∃ v L, o = .returned v ∧ Q0 n0 v U'.heap L ∧ FrameEnd U o U' L room_1.cells room_1.slots) := by
  refine MetFree.of_bodySF pn_0 hisR ?_
  intro p e s m args below meth c s₁ Bd hml0 hP hK
  obtain ⟨rfl, hZ, hh⟩ := hP
  have hx := Bd.exec
  have hby := Bd.bytes
  have hml : c.maxLocals = 18 := hml0
  have hown : s.vm.findClass "com/example/ballast_ledger/ballastledger/CreditRatingIsBelowPinLaw" = some m.cls := findClass_of_methodNamed Bd.named
  have hnm := (name_of_methodNamed Bd.named Bd.method).1
  have hlk : meth.locks = false := BodyLoose.notSynchronized Bd
  have X0 : Stand p l e room_1 s m #[(.int p1), (.int p2), (.int p3), (.int p4)] below meth c s₁ [] 0 0 := Stand.of_body Bd
  have e0 : s₁.heap = h0 := by rw [← hh, Bd.state]; rfl
  have N0 := Fr.nil n0
  show own_Fin p e below (own_P (Q0 n0) s room_1.cells room_1.slots) (s₁.setTop (entryFrame m #[(.int p1), (.int p2), (.int p3), (.int p4)] maxLocals))
  rw [show entryFrame m #[(.int p1), (.int p2), (.int p3), (.int p4)] maxLocals = mkF m 0 #[.val (.int p1), .val (.int p2), .val (.int p3), .val (.int p4), .unset, .unset, .unset, .unset, .unset, .unset, .unset, .unset, .unset, .unset, .unset, .unset, .unset, .unset] [] from by first | (simp [entryFrame, mkF, argsToLocals, Value.category, maxLocals]; done) | rfl]
  refine own_go ?_ (fun tq kt => XS.iloadN X0.here hx rfl (hb hby at_0) rfl kt)
  show own_Fin _ _ _ _ (s₁.setTop (mkF m 1 #[.val (.int p1), .val (.int p2), .val (.int p3), .val (.int p4), .unset, .unset, .unset, .unset, .unset, .unset, .unset, .unset, .unset, .unset, .unset, .unset, .unset, .unset] [(.int p1)]))
  refine own_go ?_ (fun tq kt => XS.iconst X0.here hx rfl (hb hby at_1) kt)
  show own_Fin _ _ _ _ (s₁.setTop (mkF m 2 #[.val (.int p1), .val (.int p2), .val (.int p3), .val (.int p4), .unset, .unset, .unset, .unset, .unset, .unset, .unset, .unset, .unset, .unset, .unset, .unset, .unset, .unset] [(.int (1 : Int32)), (.int p1)]))
  refine own_go ?_ (fun tq kt => XS.iand X0.here hx rfl (hb hby at_2) rfl kt)
  show own_Fin _ _ _ _ (s₁.setTop (mkF m 3 #[.val (.int p1), .val (.int p2), .val (.int p3), .val (.int p4), .unset, .unset, .unset, .unset, .unset, .unset, .unset, .unset, .unset, .unset, .unset, .unset, .unset, .unset] [(.int (p1 &&& (1 : Int32)))]))
  by_cases hc3_12 : (p1 &&& (1 : Int32)) = (0 : Int32)
  · refine own_go ?_ (fun tq kt => XS.ifNo X0.here hx rfl (hb hby at_3) rfl ((if0 _ _).trans (teq (hc3_12 : (p1 &&& (1 : Int32)) = (0 : Int32))).2) kt)
    show own_Fin _ _ _ _ (s₁.setTop (mkF m 6 #[.val (.int p1), .val (.int p2), .val (.int p3), .val (.int p4), .unset, .unset, .unset, .unset, .unset, .unset, .unset, .unset, .unset, .unset, .unset, .unset, .unset, .unset] []))
    refine own_go ?_ (fun tq kt => XS.iconst X0.here hx rfl (hb hby at_6) kt)
    show own_Fin _ _ _ _ (s₁.setTop (mkF m 7 #[.val (.int p1), .val (.int p2), .val (.int p3), .val (.int p4), .unset, .unset, .unset, .unset, .unset, .unset, .unset, .unset, .unset, .unset, .unset, .unset, .unset, .unset] [(.int (1 : Int32))]))
    refine own_go ?_ (fun tq kt => XS.goto X0.here hx rfl (pc0 := 7) (pc' := 11) rfl (hb hby at_7) (by decide) (by decide) kt)
    show own_Fin _ _ _ _ (s₁.setTop (mkF m 11 #[.val (.int p1), .val (.int p2), .val (.int p3), .val (.int p4), .unset, .unset, .unset, .unset, .unset, .unset, .unset, .unset, .unset, .unset, .unset, .unset, .unset, .unset] [(.int (1 : Int32))]))
    refine own_go ?_ (fun tq kt => XS.istore X0.here hx rfl (hb hby at_11) rfl (l' := #[.val (.int p1), .val (.int p2), .val (.int p3), .val (.int p4), .val (.int (1 : Int32)), .unset, .unset, .unset, .unset, .unset, .unset, .unset, .unset, .unset, .unset, .unset, .unset, .unset]) rfl kt)
    show own_Fin _ _ _ _ (s₁.setTop (mkF m 13 #[.val (.int p1), .val (.int p2), .val (.int p3), .val (.int p4), .val (.int (1 : Int32)), .unset, .unset, .unset, .unset, .unset, .unset, .unset, .unset, .unset, .unset, .unset, .unset, .unset] []))
    refine own_go ?_ (fun tq kt => XS.iloadN X0.here hx rfl (hb hby at_13) rfl kt)
    show own_Fin _ _ _ _ (s₁.setTop (mkF m 14 #[.val (.int p1), .val (.int p2), .val (.int p3), .val (.int p4), .val (.int (1 : Int32)), .unset, .unset, .unset, .unset, .unset, .unset, .unset, .unset, .unset, .unset, .unset, .unset, .unset] [(.int p3)]))
    refine own_go ?_ (fun tq kt => XS.iconst X0.here hx rfl (hb hby at_14) kt)
    show own_Fin _ _ _ _ (s₁.setTop (mkF m 15 #[.val (.int p1), .val (.int p2), .val (.int p3), .val (.int p4), .val (.int (1 : Int32)), .unset, .unset, .unset, .unset, .unset, .unset, .unset, .unset, .unset, .unset, .unset, .unset, .unset] [(.int (1 : Int32)), (.int p3)]))
    refine own_go ?_ (fun tq kt => XS.iand X0.here hx rfl (hb hby at_15) rfl kt)
    show own_Fin _ _ _ _ (s₁.setTop (mkF m 16 #[.val (.int p1), .val (.int p2), .val (.int p3), .val (.int p4), .val (.int (1 : Int32)), .unset, .unset, .unset, .unset, .unset, .unset, .unset, .unset, .unset, .unset, .unset, .unset, .unset] [(.int (p3 &&& (1 : Int32)))]))
    by_cases hc16_13 : (p3 &&& (1 : Int32)) = (0 : Int32)
    · refine own_go ?_ (fun tq kt => XS.ifNo X0.here hx rfl (hb hby at_16) rfl ((if0 _ _).trans (teq (hc16_13 : (p3 &&& (1 : Int32)) = (0 : Int32))).2) kt)
      show own_Fin _ _ _ _ (s₁.setTop (mkF m 19 #[.val (.int p1), .val (.int p2), .val (.int p3), .val (.int p4), .val (.int (1 : Int32)), .unset, .unset, .unset, .unset, .unset, .unset, .unset, .unset, .unset, .unset, .unset, .unset, .unset] []))
      refine own_go ?_ (fun tq kt => XS.iconst X0.here hx rfl (hb hby at_19) kt)
      show own_Fin _ _ _ _ (s₁.setTop (mkF m 20 #[.val (.int p1), .val (.int p2), .val (.int p3), .val (.int p4), .val (.int (1 : Int32)), .unset, .unset, .unset, .unset, .unset, .unset, .unset, .unset, .unset, .unset, .unset, .unset, .unset] [(.int (1 : Int32))]))
      refine own_go ?_ (fun tq kt => XS.goto X0.here hx rfl (pc0 := 20) (pc' := 24) rfl (hb hby at_20) (by decide) (by decide) kt)
      show own_Fin _ _ _ _ (s₁.setTop (mkF m 24 #[.val (.int p1), .val (.int p2), .val (.int p3), .val (.int p4), .val (.int (1 : Int32)), .unset, .unset, .unset, .unset, .unset, .unset, .unset, .unset, .unset, .unset, .unset, .unset, .unset] [(.int (1 : Int32))]))
      refine own_go ?_ (fun tq kt => XS.istore X0.here hx rfl (hb hby at_24) rfl (l' := #[.val (.int p1), .val (.int p2), .val (.int p3), .val (.int p4), .val (.int (1 : Int32)), .val (.int (1 : Int32)), .unset, .unset, .unset, .unset, .unset, .unset, .unset, .unset, .unset, .unset, .unset, .unset]) rfl kt)
      show own_Fin _ _ _ _ (s₁.setTop (mkF m 26 #[.val (.int p1), .val (.int p2), .val (.int p3), .val (.int p4), .val (.int (1 : Int32)), .val (.int (1 : Int32)), .unset, .unset, .unset, .unset, .unset, .unset, .unset, .unset, .unset, .unset, .unset, .unset] []))
      refine own_go ?_ (fun tq kt => XS.iload X0.here hx rfl (hb hby at_26) rfl kt)
      show own_Fin _ _ _ _ (s₁.setTop (mkF m 28 #[.val (.int p1), .val (.int p2), .val (.int p3), .val (.int p4), .val (.int (1 : Int32)), .val (.int (1 : Int32)), .unset, .unset, .unset, .unset, .unset, .unset, .unset, .unset, .unset, .unset, .unset, .unset] [(.int (1 : Int32))]))
      refine own_go ?_ (fun tq kt => XS.ifNo X0.here hx rfl (hb hby at_28) rfl ((if0 _ _).trans (feq ((by decide) : ¬ ((1 : Int32) = (0 : Int32)))).1) kt)
      show own_Fin _ _ _ _ (s₁.setTop (mkF m 31 #[.val (.int p1), .val (.int p2), .val (.int p3), .val (.int p4), .val (.int (1 : Int32)), .val (.int (1 : Int32)), .unset, .unset, .unset, .unset, .unset, .unset, .unset, .unset, .unset, .unset, .unset, .unset] []))
      obtain ⟨T14, X14, e14, st14⟩ := getS2 X0 hx hZ hown (host := "") (Or.inl (hw _ (List.mem_of_getElem? (i := 0) rfl))) Via.refl e0 (sSt.ext O0.2) (g := (mkF m 31 #[.val (.int p1), .val (.int p2), .val (.int p3), .val (.int p4), .val (.int (1 : Int32)), .val (.int (1 : Int32)), .unset, .unset, .unset, .unset, .unset, .unset, .unset, .unset, .unset, .unset, .unset, .unset] [])) rfl (hb hby at_31)
      refine own_go ?_ (fun tq kt => st14 _ kt)
      show own_Fin _ _ _ _ (T14.setTop (mkF m 34 #[.val (.int p1), .val (.int p2), .val (.int p3), .val (.int p4), .val (.int (1 : Int32)), .val (.int (1 : Int32)), .unset, .unset, .unset, .unset, .unset, .unset, .unset, .unset, .unset, .unset, .unset, .unset] [(.ref sp)]))
      refine own_go ?_ (fun tq kt => XS.goto X14.here hx rfl (pc0 := 34) (pc' := 40) rfl (hb hby at_34) (by decide) (by decide) kt)
      show own_Fin _ _ _ _ (T14.setTop (mkF m 40 #[.val (.int p1), .val (.int p2), .val (.int p3), .val (.int p4), .val (.int (1 : Int32)), .val (.int (1 : Int32)), .unset, .unset, .unset, .unset, .unset, .unset, .unset, .unset, .unset, .unset, .unset, .unset] [(.ref sp)]))
      refine own_go ?_ (fun tq kt => XS.astore X14.here hx rfl (hb hby at_40) rfl rfl (l' := #[.val (.int p1), .val (.int p2), .val (.int p3), .val (.int p4), .val (.int (1 : Int32)), .val (.int (1 : Int32)), .val (.ref sp), .unset, .unset, .unset, .unset, .unset, .unset, .unset, .unset, .unset, .unset, .unset]) rfl kt)
      show own_Fin _ _ _ _ (T14.setTop (mkF m 42 #[.val (.int p1), .val (.int p2), .val (.int p3), .val (.int p4), .val (.int (1 : Int32)), .val (.int (1 : Int32)), .val (.ref sp), .unset, .unset, .unset, .unset, .unset, .unset, .unset, .unset, .unset, .unset, .unset] []))
      refine own_go ?_ (fun tq kt => XS.iload X14.here hx rfl (hb hby at_42) rfl kt)
      show own_Fin _ _ _ _ (T14.setTop (mkF m 44 #[.val (.int p1), .val (.int p2), .val (.int p3), .val (.int p4), .val (.int (1 : Int32)), .val (.int (1 : Int32)), .val (.ref sp), .unset, .unset, .unset, .unset, .unset, .unset, .unset, .unset, .unset, .unset, .unset] [(.int (1 : Int32))]))
      refine own_go ?_ (fun tq kt => XS.ifNo X14.here hx rfl (hb hby at_44) rfl ((if0 _ _).trans (feq ((by decide) : ¬ ((1 : Int32) = (0 : Int32)))).1) kt)
      show own_Fin _ _ _ _ (T14.setTop (mkF m 47 #[.val (.int p1), .val (.int p2), .val (.int p3), .val (.int p4), .val (.int (1 : Int32)), .val (.int (1 : Int32)), .val (.ref sp), .unset, .unset, .unset, .unset, .unset, .unset, .unset, .unset, .unset, .unset, .unset] []))
      obtain ⟨T15, X15, e15, st15⟩ := getS2 X14 hx hZ hown (host := "") (Or.inl (hw _ (List.mem_of_getElem? (i := 0) rfl))) Via.refl e14 (sSt.ext O0.2) (g := (mkF m 47 #[.val (.int p1), .val (.int p2), .val (.int p3), .val (.int p4), .val (.int (1 : Int32)), .val (.int (1 : Int32)), .val (.ref sp), .unset, .unset, .unset, .unset, .unset, .unset, .unset, .unset, .unset, .unset, .unset] [])) rfl (hb hby at_47)
      refine own_go ?_ (fun tq kt => st15 _ kt)
      show own_Fin _ _ _ _ (T15.setTop (mkF m 50 #[.val (.int p1), .val (.int p2), .val (.int p3), .val (.int p4), .val (.int (1 : Int32)), .val (.int (1 : Int32)), .val (.ref sp), .unset, .unset, .unset, .unset, .unset, .unset, .unset, .unset, .unset, .unset, .unset] [(.ref sp)]))
      refine own_go ?_ (fun tq kt => XS.goto X15.here hx rfl (pc0 := 50) (pc' := 56) rfl (hb hby at_50) (by decide) (by decide) kt)
      show own_Fin _ _ _ _ (T15.setTop (mkF m 56 #[.val (.int p1), .val (.int p2), .val (.int p3), .val (.int p4), .val (.int (1 : Int32)), .val (.int (1 : Int32)), .val (.ref sp), .unset, .unset, .unset, .unset, .unset, .unset, .unset, .unset, .unset, .unset, .unset] [(.ref sp)]))
      refine own_go ?_ (fun tq kt => XS.astore X15.here hx rfl (hb hby at_56) rfl rfl (l' := #[.val (.int p1), .val (.int p2), .val (.int p3), .val (.int p4), .val (.int (1 : Int32)), .val (.int (1 : Int32)), .val (.ref sp), .val (.ref sp), .unset, .unset, .unset, .unset, .unset, .unset, .unset, .unset, .unset, .unset]) rfl kt)
      show own_Fin _ _ _ _ (T15.setTop (mkF m 58 #[.val (.int p1), .val (.int p2), .val (.int p3), .val (.int p4), .val (.int (1 : Int32)), .val (.int (1 : Int32)), .val (.ref sp), .val (.ref sp), .unset, .unset, .unset, .unset, .unset, .unset, .unset, .unset, .unset, .unset] []))
      refine own_go ?_ (fun tq kt => XS.iload X15.here hx rfl (hb hby at_58) rfl kt)
      show own_Fin _ _ _ _ (T15.setTop (mkF m 60 #[.val (.int p1), .val (.int p2), .val (.int p3), .val (.int p4), .val (.int (1 : Int32)), .val (.int (1 : Int32)), .val (.ref sp), .val (.ref sp), .unset, .unset, .unset, .unset, .unset, .unset, .unset, .unset, .unset, .unset] [(.int (1 : Int32))]))
      refine own_go ?_ (fun tq kt => XS.ifNo X15.here hx rfl (hb hby at_60) rfl ((if0 _ _).trans (feq ((by decide) : ¬ ((1 : Int32) = (0 : Int32)))).1) kt)
      show own_Fin _ _ _ _ (T15.setTop (mkF m 63 #[.val (.int p1), .val (.int p2), .val (.int p3), .val (.int p4), .val (.int (1 : Int32)), .val (.int (1 : Int32)), .val (.ref sp), .val (.ref sp), .unset, .unset, .unset, .unset, .unset, .unset, .unset, .unset, .unset, .unset] []))
      refine own_go ?_ (fun tq kt => XS.bipush X15.here hx rfl (hb hby at_63) kt)
      show own_Fin _ _ _ _ (T15.setTop (mkF m 65 #[.val (.int p1), .val (.int p2), .val (.int p3), .val (.int p4), .val (.int (1 : Int32)), .val (.int (1 : Int32)), .val (.ref sp), .val (.ref sp), .unset, .unset, .unset, .unset, .unset, .unset, .unset, .unset, .unset, .unset] [(.int (22 : Int32))]))
      refine own_go ?_ (fun tq kt => XS.goto X15.here hx rfl (pc0 := 65) (pc' := 70) rfl (hb hby at_65) (by decide) (by decide) kt)
      show own_Fin _ _ _ _ (T15.setTop (mkF m 70 #[.val (.int p1), .val (.int p2), .val (.int p3), .val (.int p4), .val (.int (1 : Int32)), .val (.int (1 : Int32)), .val (.ref sp), .val (.ref sp), .unset, .unset, .unset, .unset, .unset, .unset, .unset, .unset, .unset, .unset] [(.int (22 : Int32))]))
      refine own_go ?_ (fun tq kt => XS.istore X15.here hx rfl (hb hby at_70) rfl (l' := #[.val (.int p1), .val (.int p2), .val (.int p3), .val (.int p4), .val (.int (1 : Int32)), .val (.int (1 : Int32)), .val (.ref sp), .val (.ref sp), .val (.int (22 : Int32)), .unset, .unset, .unset, .unset, .unset, .unset, .unset, .unset, .unset]) rfl kt)
      show own_Fin _ _ _ _ (T15.setTop (mkF m 72 #[.val (.int p1), .val (.int p2), .val (.int p3), .val (.int p4), .val (.int (1 : Int32)), .val (.int (1 : Int32)), .val (.ref sp), .val (.ref sp), .val (.int (22 : Int32)), .unset, .unset, .unset, .unset, .unset, .unset, .unset, .unset, .unset] []))
      refine own_go ?_ (fun tq kt => XS.iload X15.here hx rfl (hb hby at_72) rfl kt)
      show own_Fin _ _ _ _ (T15.setTop (mkF m 74 #[.val (.int p1), .val (.int p2), .val (.int p3), .val (.int p4), .val (.int (1 : Int32)), .val (.int (1 : Int32)), .val (.ref sp), .val (.ref sp), .val (.int (22 : Int32)), .unset, .unset, .unset, .unset, .unset, .unset, .unset, .unset, .unset] [(.int (1 : Int32))]))
      refine own_go ?_ (fun tq kt => XS.ifNo X15.here hx rfl (hb hby at_74) rfl ((if0 _ _).trans (feq ((by decide) : ¬ ((1 : Int32) = (0 : Int32)))).1) kt)
      show own_Fin _ _ _ _ (T15.setTop (mkF m 77 #[.val (.int p1), .val (.int p2), .val (.int p3), .val (.int p4), .val (.int (1 : Int32)), .val (.int (1 : Int32)), .val (.ref sp), .val (.ref sp), .val (.int (22 : Int32)), .unset, .unset, .unset, .unset, .unset, .unset, .unset, .unset, .unset] []))
      refine own_go ?_ (fun tq kt => XS.bipush X15.here hx rfl (hb hby at_77) kt)
      show own_Fin _ _ _ _ (T15.setTop (mkF m 79 #[.val (.int p1), .val (.int p2), .val (.int p3), .val (.int p4), .val (.int (1 : Int32)), .val (.int (1 : Int32)), .val (.ref sp), .val (.ref sp), .val (.int (22 : Int32)), .unset, .unset, .unset, .unset, .unset, .unset, .unset, .unset, .unset] [(.int (22 : Int32))]))
      refine own_go ?_ (fun tq kt => XS.goto X15.here hx rfl (pc0 := 79) (pc' := 84) rfl (hb hby at_79) (by decide) (by decide) kt)
      show own_Fin _ _ _ _ (T15.setTop (mkF m 84 #[.val (.int p1), .val (.int p2), .val (.int p3), .val (.int p4), .val (.int (1 : Int32)), .val (.int (1 : Int32)), .val (.ref sp), .val (.ref sp), .val (.int (22 : Int32)), .unset, .unset, .unset, .unset, .unset, .unset, .unset, .unset, .unset] [(.int (22 : Int32))]))
      refine own_go ?_ (fun tq kt => XS.istore X15.here hx rfl (hb hby at_84) rfl (l' := #[.val (.int p1), .val (.int p2), .val (.int p3), .val (.int p4), .val (.int (1 : Int32)), .val (.int (1 : Int32)), .val (.ref sp), .val (.ref sp), .val (.int (22 : Int32)), .val (.int (22 : Int32)), .unset, .unset, .unset, .unset, .unset, .unset, .unset, .unset]) rfl kt)
      show own_Fin _ _ _ _ (T15.setTop (mkF m 86 #[.val (.int p1), .val (.int p2), .val (.int p3), .val (.int p4), .val (.int (1 : Int32)), .val (.int (1 : Int32)), .val (.ref sp), .val (.ref sp), .val (.int (22 : Int32)), .val (.int (22 : Int32)), .unset, .unset, .unset, .unset, .unset, .unset, .unset, .unset] []))
      refine own_go ?_ (fun tq kt => XS.iloadN X15.here hx rfl (hb hby at_86) rfl kt)
      show own_Fin _ _ _ _ (T15.setTop (mkF m 87 #[.val (.int p1), .val (.int p2), .val (.int p3), .val (.int p4), .val (.int (1 : Int32)), .val (.int (1 : Int32)), .val (.ref sp), .val (.ref sp), .val (.int (22 : Int32)), .val (.int (22 : Int32)), .unset, .unset, .unset, .unset, .unset, .unset, .unset, .unset] [(.int p2)]))
      refine own_go ?_ (fun tq kt => X15.ldcInt hx hown (mvT hZ (hw _ (List.mem_of_getElem? (i := 3) rfl))) (g := (mkF m 87 #[.val (.int p1), .val (.int p2), .val (.int p3), .val (.int p4), .val (.int (1 : Int32)), .val (.int (1 : Int32)), .val (.ref sp), .val (.ref sp), .val (.int (22 : Int32)), .val (.int (22 : Int32)), .unset, .unset, .unset, .unset, .unset, .unset, .unset, .unset] [(.int p2)])) rfl (hb hby at_87) _ kt)
      show own_Fin _ _ _ _ (T15.setTop (mkF m 89 #[.val (.int p1), .val (.int p2), .val (.int p3), .val (.int p4), .val (.int (1 : Int32)), .val (.int (1 : Int32)), .val (.ref sp), .val (.ref sp), .val (.int (22 : Int32)), .val (.int (22 : Int32)), .unset, .unset, .unset, .unset, .unset, .unset, .unset, .unset] [(.int (2147483647 : Int32)), (.int p2)]))
      refine own_go ?_ (fun tq kt => XS.iand X15.here hx rfl (hb hby at_89) rfl kt)
      show own_Fin _ _ _ _ (T15.setTop (mkF m 90 #[.val (.int p1), .val (.int p2), .val (.int p3), .val (.int p4), .val (.int (1 : Int32)), .val (.int (1 : Int32)), .val (.ref sp), .val (.ref sp), .val (.int (22 : Int32)), .val (.int (22 : Int32)), .unset, .unset, .unset, .unset, .unset, .unset, .unset, .unset] [(.int (p2 &&& (2147483647 : Int32)))]))
      refine own_go ?_ (fun tq kt => XS.iload X15.here hx rfl (hb hby at_90) rfl kt)
      show own_Fin _ _ _ _ (T15.setTop (mkF m 92 #[.val (.int p1), .val (.int p2), .val (.int p3), .val (.int p4), .val (.int (1 : Int32)), .val (.int (1 : Int32)), .val (.ref sp), .val (.ref sp), .val (.int (22 : Int32)), .val (.int (22 : Int32)), .unset, .unset, .unset, .unset, .unset, .unset, .unset, .unset] [(.int (22 : Int32)), (.int (p2 &&& (2147483647 : Int32)))]))
      refine own_go ?_ (fun tq kt => iremM X15 hx rfl (hb hby at_92) rfl (by decide) kt)
      show own_Fin _ _ _ _ (T15.setTop (mkF m 93 #[.val (.int p1), .val (.int p2), .val (.int p3), .val (.int p4), .val (.int (1 : Int32)), .val (.int (1 : Int32)), .val (.ref sp), .val (.ref sp), .val (.int (22 : Int32)), .val (.int (22 : Int32)), .unset, .unset, .unset, .unset, .unset, .unset, .unset, .unset] [(.int ((p2 &&& (2147483647 : Int32)) % (22 : Int32)))]))
      refine own_go ?_ (fun tq kt => XS.istore X15.here hx rfl (hb hby at_93) rfl (l' := #[.val (.int p1), .val (.int p2), .val (.int p3), .val (.int p4), .val (.int (1 : Int32)), .val (.int (1 : Int32)), .val (.ref sp), .val (.ref sp), .val (.int (22 : Int32)), .val (.int (22 : Int32)), .val (.int ((p2 &&& (2147483647 : Int32)) % (22 : Int32))), .unset, .unset, .unset, .unset, .unset, .unset, .unset]) rfl kt)
      show own_Fin _ _ _ _ (T15.setTop (mkF m 95 #[.val (.int p1), .val (.int p2), .val (.int p3), .val (.int p4), .val (.int (1 : Int32)), .val (.int (1 : Int32)), .val (.ref sp), .val (.ref sp), .val (.int (22 : Int32)), .val (.int (22 : Int32)), .val (.int ((p2 &&& (2147483647 : Int32)) % (22 : Int32))), .unset, .unset, .unset, .unset, .unset, .unset, .unset] []))
      refine own_go ?_ (fun tq kt => XS.iloadN X15.here hx rfl (hb hby at_95) rfl kt)
      show own_Fin _ _ _ _ (T15.setTop (mkF m 96 #[.val (.int p1), .val (.int p2), .val (.int p3), .val (.int p4), .val (.int (1 : Int32)), .val (.int (1 : Int32)), .val (.ref sp), .val (.ref sp), .val (.int (22 : Int32)), .val (.int (22 : Int32)), .val (.int ((p2 &&& (2147483647 : Int32)) % (22 : Int32))), .unset, .unset, .unset, .unset, .unset, .unset, .unset] [(.int p4)]))
      refine own_go ?_ (fun tq kt => X15.ldcInt hx hown (mvT hZ (hw _ (List.mem_of_getElem? (i := 3) rfl))) (g := (mkF m 96 #[.val (.int p1), .val (.int p2), .val (.int p3), .val (.int p4), .val (.int (1 : Int32)), .val (.int (1 : Int32)), .val (.ref sp), .val (.ref sp), .val (.int (22 : Int32)), .val (.int (22 : Int32)), .val (.int ((p2 &&& (2147483647 : Int32)) % (22 : Int32))), .unset, .unset, .unset, .unset, .unset, .unset, .unset] [(.int p4)])) rfl (hb hby at_96) _ kt)
      show own_Fin _ _ _ _ (T15.setTop (mkF m 98 #[.val (.int p1), .val (.int p2), .val (.int p3), .val (.int p4), .val (.int (1 : Int32)), .val (.int (1 : Int32)), .val (.ref sp), .val (.ref sp), .val (.int (22 : Int32)), .val (.int (22 : Int32)), .val (.int ((p2 &&& (2147483647 : Int32)) % (22 : Int32))), .unset, .unset, .unset, .unset, .unset, .unset, .unset] [(.int (2147483647 : Int32)), (.int p4)]))
      refine own_go ?_ (fun tq kt => XS.iand X15.here hx rfl (hb hby at_98) rfl kt)
      show own_Fin _ _ _ _ (T15.setTop (mkF m 99 #[.val (.int p1), .val (.int p2), .val (.int p3), .val (.int p4), .val (.int (1 : Int32)), .val (.int (1 : Int32)), .val (.ref sp), .val (.ref sp), .val (.int (22 : Int32)), .val (.int (22 : Int32)), .val (.int ((p2 &&& (2147483647 : Int32)) % (22 : Int32))), .unset, .unset, .unset, .unset, .unset, .unset, .unset] [(.int (p4 &&& (2147483647 : Int32)))]))
      refine own_go ?_ (fun tq kt => XS.iload X15.here hx rfl (hb hby at_99) rfl kt)
      show own_Fin _ _ _ _ (T15.setTop (mkF m 101 #[.val (.int p1), .val (.int p2), .val (.int p3), .val (.int p4), .val (.int (1 : Int32)), .val (.int (1 : Int32)), .val (.ref sp), .val (.ref sp), .val (.int (22 : Int32)), .val (.int (22 : Int32)), .val (.int ((p2 &&& (2147483647 : Int32)) % (22 : Int32))), .unset, .unset, .unset, .unset, .unset, .unset, .unset] [(.int (22 : Int32)), (.int (p4 &&& (2147483647 : Int32)))]))
      refine own_go ?_ (fun tq kt => iremM X15 hx rfl (hb hby at_101) rfl (by decide) kt)
      show own_Fin _ _ _ _ (T15.setTop (mkF m 102 #[.val (.int p1), .val (.int p2), .val (.int p3), .val (.int p4), .val (.int (1 : Int32)), .val (.int (1 : Int32)), .val (.ref sp), .val (.ref sp), .val (.int (22 : Int32)), .val (.int (22 : Int32)), .val (.int ((p2 &&& (2147483647 : Int32)) % (22 : Int32))), .unset, .unset, .unset, .unset, .unset, .unset, .unset] [(.int ((p4 &&& (2147483647 : Int32)) % (22 : Int32)))]))
      refine own_go ?_ (fun tq kt => XS.istore X15.here hx rfl (hb hby at_102) rfl (l' := #[.val (.int p1), .val (.int p2), .val (.int p3), .val (.int p4), .val (.int (1 : Int32)), .val (.int (1 : Int32)), .val (.ref sp), .val (.ref sp), .val (.int (22 : Int32)), .val (.int (22 : Int32)), .val (.int ((p2 &&& (2147483647 : Int32)) % (22 : Int32))), .val (.int ((p4 &&& (2147483647 : Int32)) % (22 : Int32))), .unset, .unset, .unset, .unset, .unset, .unset]) rfl kt)
      show own_Fin _ _ _ _ (T15.setTop (mkF m 104 #[.val (.int p1), .val (.int p2), .val (.int p3), .val (.int p4), .val (.int (1 : Int32)), .val (.int (1 : Int32)), .val (.ref sp), .val (.ref sp), .val (.int (22 : Int32)), .val (.int (22 : Int32)), .val (.int ((p2 &&& (2147483647 : Int32)) % (22 : Int32))), .val (.int ((p4 &&& (2147483647 : Int32)) % (22 : Int32))), .unset, .unset, .unset, .unset, .unset, .unset] []))
      have Bn1 := own_rem22 p2
      have Bn2 := own_rem22 p4
      generalize ((p2 &&& (2147483647 : Int32)) % (22 : Int32)) = n1 at Bn1 ⊢
      generalize ((p4 &&& (2147483647 : Int32)) % (22 : Int32)) = n2 at Bn2 ⊢
      show own_Fin _ _ _ _ (T15.setTop (mkF m 104 #[.val (.int p1), .val (.int p2), .val (.int p3), .val (.int p4), .val (.int (1 : Int32)), .val (.int (1 : Int32)), .val (.ref sp), .val (.ref sp), .val (.int (22 : Int32)), .val (.int (22 : Int32)), .val (.int n1), .val (.int n2), .unset, .unset, .unset, .unset, .unset, .unset] []))
      obtain ⟨T16, h16, X16, e16, E16, A16, D16, -, st16⟩ := newO X15 hx hZ hown (hw _ (List.mem_of_getElem? (i := 4) rfl)) (hw _ (List.mem_of_getElem? (i := 5) rfl)) (hw _ (List.mem_of_getElem? (i := 6) rfl)) e15 (g := (mkF m 104 #[.val (.int p1), .val (.int p2), .val (.int p3), .val (.int p4), .val (.int (1 : Int32)), .val (.int (1 : Int32)), .val (.ref sp), .val (.ref sp), .val (.int (22 : Int32)), .val (.int (22 : Int32)), .val (.int n1), .val (.int n2), .unset, .unset, .unset, .unset, .unset, .unset] [])) rfl (hb hby at_104) (by decide) (by decide)
      obtain ⟨b16, g16⟩ : ∃ z, z = h0.size := ⟨_, rfl⟩
      rw [← g16] at A16 D16 st16
      have zs17 := Nat.le_trans Z0 E16.1
      have od17 := O0.ext E16
      have g_b16 : n0 ≤ b16 := Nat.le_trans Z0 (Nat.le_of_eq g16.symm)
      have F16_agency : Fld Z h16 b16 "com/example/ballast_ledger/ballastledger/CreditRating" "agency" "Lcom/example/ballast_ledger/ballastledger/CreditRating$Agency;" .null := D16 (Or.inr (hw _ (List.mem_of_getElem? (i := 33) rfl))) (ty := (.object "com/example/ballast_ledger/ballastledger/CreditRating$Agency")) (by decide)
      have F16_notch : Fld Z h16 b16 "com/example/ballast_ledger/ballastledger/CreditRating" "notch" "I" (.int (0 : Int32)) := D16 (Or.inr (hw _ (List.mem_of_getElem? (i := 35) rfl))) (ty := .int) (by decide)
      refine own_go ?_ (fun tq kt => st16 _ kt)
      show own_Fin _ _ _ _ (T16.setTop (mkF m 107 #[.val (.int p1), .val (.int p2), .val (.int p3), .val (.int p4), .val (.int (1 : Int32)), .val (.int (1 : Int32)), .val (.ref sp), .val (.ref sp), .val (.int (22 : Int32)), .val (.int (22 : Int32)), .val (.int n1), .val (.int n2), .unset, .unset, .unset, .unset, .unset, .unset] [(.ref b16)]))
      refine own_go ?_ (fun tq kt => XS.dup X16.here hx rfl (hb hby at_107) rfl rfl kt)
      show own_Fin _ _ _ _ (T16.setTop (mkF m 108 #[.val (.int p1), .val (.int p2), .val (.int p3), .val (.int p4), .val (.int (1 : Int32)), .val (.int (1 : Int32)), .val (.ref sp), .val (.ref sp), .val (.int (22 : Int32)), .val (.int (22 : Int32)), .val (.int n1), .val (.int n2), .unset, .unset, .unset, .unset, .unset, .unset] [(.ref b16), (.ref b16)]))
      refine own_go ?_ (fun tq kt => XS.aload X16.here hx rfl (hb hby at_108) rfl rfl kt)
      show own_Fin _ _ _ _ (T16.setTop (mkF m 110 #[.val (.int p1), .val (.int p2), .val (.int p3), .val (.int p4), .val (.int (1 : Int32)), .val (.int (1 : Int32)), .val (.ref sp), .val (.ref sp), .val (.int (22 : Int32)), .val (.int (22 : Int32)), .val (.int n1), .val (.int n2), .unset, .unset, .unset, .unset, .unset, .unset] [(.ref sp), (.ref b16), (.ref b16)]))
      refine own_go ?_ (fun tq kt => XS.iload X16.here hx rfl (hb hby at_110) rfl kt)
      show own_Fin _ _ _ _ (T16.setTop (mkF m 112 #[.val (.int p1), .val (.int p2), .val (.int p3), .val (.int p4), .val (.int (1 : Int32)), .val (.int (1 : Int32)), .val (.ref sp), .val (.ref sp), .val (.int (22 : Int32)), .val (.int (22 : Int32)), .val (.int n1), .val (.int n2), .unset, .unset, .unset, .unset, .unset, .unset] [(.int n1), (.ref sp), (.ref b16), (.ref b16)]))
      obtain ⟨_, _, ⟨T18, L18, k18, n18⟩, -, X18, ⟨Lc18, hQ18, l18, y18, z18⟩, st18⟩ := X16.specialBack hx (y := (⟨"com/example/ballast_ledger/ballastledger/CreditRating", "<init>", "(Lcom/example/ballast_ledger/ballastledger/CreditRating$Agency;I)V"⟩ : MethodName)) rfl hown (mvT hZ (hw _ (List.mem_of_getElem? (i := 7) rfl))) (mvT hZ (hw _ (List.mem_of_getElem? (i := 8) rfl))) (mvT hZ (hw _ (List.mem_of_getElem? (i := 9) rfl))) (by decide) (backOf (W := 1) (rm1 l Z a0 hw [] b16 sp n1 ssc sel scl (22 : Int32) h16 n0 zs17 od17 A16 F16_agency F16_notch g_b16 sFS sES sFE sAR sAS sAM Bn1.1 Bn1.2) hZ (hw _ (List.mem_of_getElem? (i := 9) rfl)) (hw _ (List.mem_of_getElem? (i := 6) rfl)) (by decide) (by decide)) (g := (mkF m 112 #[.val (.int p1), .val (.int p2), .val (.int p3), .val (.int p4), .val (.int (1 : Int32)), .val (.int (1 : Int32)), .val (.ref sp), .val (.ref sp), .val (.int (22 : Int32)), .val (.int (22 : Int32)), .val (.int n1), .val (.int n2), .unset, .unset, .unset, .unset, .unset, .unset] [(.int n1), (.ref sp), (.ref b16), (.ref b16)])) rfl (by rw [hml]; rfl) (Steps.refl _) (a := b16) (argsL := [(.ref sp), (.int n1)]) (rest := [(.ref b16)]) (lenOf own_pd2 rfl) rfl (by show 2 * 0 + _ ≤ _; exact Nat.le_of_eq rfl) (hb hby at_112) (fun _ _ => ⟨rfl, e16, (by decide : 1 + 0 ≤ _), (by decide : 2 + 0 ≤ _)⟩)
      dsimp only [Pt.U, Pt.locs, Pt.cells, Pt.slots] at X18 l18 y18 z18 st18 hQ18
      subst l18 y18 z18
      obtain ⟨rfl, N18q, K18, F18⟩ := hQ18
      have N18 := Fr.app N0 N18q
      obtain ⟨h18, e18⟩ : ∃ z, z = T18.heap := ⟨_, rfl⟩
      have e18' := e18.symm
      rw [← e18] at K18 F18
      have zs19 := Nat.le_trans zs17 K18.1
      have od19 := od17.keep K18 (allS g_b16 all0)
      refine own_go ?_ (fun tq kt => st18.trans kt)
      show own_Fin _ _ _ _ (T18.setTop (mkF m 115 #[.val (.int p1), .val (.int p2), .val (.int p3), .val (.int p4), .val (.int (1 : Int32)), .val (.int (1 : Int32)), .val (.ref sp), .val (.ref sp), .val (.int (22 : Int32)), .val (.int (22 : Int32)), .val (.int n1), .val (.int n2), .unset, .unset, .unset, .unset, .unset, .unset] [(.ref b16)]))
      refine own_go ?_ (fun tq kt => XS.astore X18.here hx rfl (hb hby at_115) rfl rfl (l' := #[.val (.int p1), .val (.int p2), .val (.int p3), .val (.int p4), .val (.int (1 : Int32)), .val (.int (1 : Int32)), .val (.ref sp), .val (.ref sp), .val (.int (22 : Int32)), .val (.int (22 : Int32)), .val (.int n1), .val (.int n2), .val (.ref b16), .unset, .unset, .unset, .unset, .unset]) rfl kt)
      show own_Fin _ _ _ _ (T18.setTop (mkF m 117 #[.val (.int p1), .val (.int p2), .val (.int p3), .val (.int p4), .val (.int (1 : Int32)), .val (.int (1 : Int32)), .val (.ref sp), .val (.ref sp), .val (.int (22 : Int32)), .val (.int (22 : Int32)), .val (.int n1), .val (.int n2), .val (.ref b16), .unset, .unset, .unset, .unset, .unset] []))
      obtain ⟨T20, h20, X20, e20, E20, A20, D20, -, st20⟩ := newO X18 hx hZ hown (hw _ (List.mem_of_getElem? (i := 4) rfl)) (hw _ (List.mem_of_getElem? (i := 5) rfl)) (hw _ (List.mem_of_getElem? (i := 6) rfl)) e18' (g := (mkF m 117 #[.val (.int p1), .val (.int p2), .val (.int p3), .val (.int p4), .val (.int (1 : Int32)), .val (.int (1 : Int32)), .val (.ref sp), .val (.ref sp), .val (.int (22 : Int32)), .val (.int (22 : Int32)), .val (.int n1), .val (.int n2), .val (.ref b16), .unset, .unset, .unset, .unset, .unset] [])) rfl (hb hby at_117) (by decide) (by decide)
      obtain ⟨b20, g20⟩ : ∃ z, z = h18.size := ⟨_, rfl⟩
      rw [← g20] at A20 D20 st20
      have zs21 := Nat.le_trans zs19 E20.1
      have od21 := od19.ext E20
      have g_b20 : n0 ≤ b20 := Nat.le_trans zs19 (Nat.le_of_eq g20.symm)
      have ne_b16_b20 : b16 ≠ b20 := Nat.ne_of_lt (Nat.lt_of_lt_of_le ((A16.keep K18)).lt (Nat.le_of_eq g20.symm))
      have F20_agency : Fld Z h20 b20 "com/example/ballast_ledger/ballastledger/CreditRating" "agency" "Lcom/example/ballast_ledger/ballastledger/CreditRating$Agency;" .null := D20 (Or.inr (hw _ (List.mem_of_getElem? (i := 33) rfl))) (ty := (.object "com/example/ballast_ledger/ballastledger/CreditRating$Agency")) (by decide)
      have F20_notch : Fld Z h20 b20 "com/example/ballast_ledger/ballastledger/CreditRating" "notch" "I" (.int (0 : Int32)) := D20 (Or.inr (hw _ (List.mem_of_getElem? (i := 35) rfl))) (ty := .int) (by decide)
      refine own_go ?_ (fun tq kt => st20 _ kt)
      show own_Fin _ _ _ _ (T20.setTop (mkF m 120 #[.val (.int p1), .val (.int p2), .val (.int p3), .val (.int p4), .val (.int (1 : Int32)), .val (.int (1 : Int32)), .val (.ref sp), .val (.ref sp), .val (.int (22 : Int32)), .val (.int (22 : Int32)), .val (.int n1), .val (.int n2), .val (.ref b16), .unset, .unset, .unset, .unset, .unset] [(.ref b20)]))
      refine own_go ?_ (fun tq kt => XS.dup X20.here hx rfl (hb hby at_120) rfl rfl kt)
      show own_Fin _ _ _ _ (T20.setTop (mkF m 121 #[.val (.int p1), .val (.int p2), .val (.int p3), .val (.int p4), .val (.int (1 : Int32)), .val (.int (1 : Int32)), .val (.ref sp), .val (.ref sp), .val (.int (22 : Int32)), .val (.int (22 : Int32)), .val (.int n1), .val (.int n2), .val (.ref b16), .unset, .unset, .unset, .unset, .unset] [(.ref b20), (.ref b20)]))
      refine own_go ?_ (fun tq kt => XS.aload X20.here hx rfl (hb hby at_121) rfl rfl kt)
      show own_Fin _ _ _ _ (T20.setTop (mkF m 123 #[.val (.int p1), .val (.int p2), .val (.int p3), .val (.int p4), .val (.int (1 : Int32)), .val (.int (1 : Int32)), .val (.ref sp), .val (.ref sp), .val (.int (22 : Int32)), .val (.int (22 : Int32)), .val (.int n1), .val (.int n2), .val (.ref b16), .unset, .unset, .unset, .unset, .unset] [(.ref sp), (.ref b20), (.ref b20)]))
      refine own_go ?_ (fun tq kt => XS.iload X20.here hx rfl (hb hby at_123) rfl kt)
      show own_Fin _ _ _ _ (T20.setTop (mkF m 125 #[.val (.int p1), .val (.int p2), .val (.int p3), .val (.int p4), .val (.int (1 : Int32)), .val (.int (1 : Int32)), .val (.ref sp), .val (.ref sp), .val (.int (22 : Int32)), .val (.int (22 : Int32)), .val (.int n1), .val (.int n2), .val (.ref b16), .unset, .unset, .unset, .unset, .unset] [(.int n2), (.ref sp), (.ref b20), (.ref b20)]))
      obtain ⟨_, _, ⟨T22, L22, k22, n22⟩, -, X22, ⟨Lc22, hQ22, l22, y22, z22⟩, st22⟩ := X20.specialBack hx (y := (⟨"com/example/ballast_ledger/ballastledger/CreditRating", "<init>", "(Lcom/example/ballast_ledger/ballastledger/CreditRating$Agency;I)V"⟩ : MethodName)) rfl hown (mvT hZ (hw _ (List.mem_of_getElem? (i := 7) rfl))) (mvT hZ (hw _ (List.mem_of_getElem? (i := 8) rfl))) (mvT hZ (hw _ (List.mem_of_getElem? (i := 9) rfl))) (by decide) (backOf (W := 1) (rm1 l Z a0 hw [] b20 sp n2 ssc sel scl (22 : Int32) h20 n0 zs21 od21 A20 F20_agency F20_notch g_b20 sFS sES sFE sAR sAS sAM Bn2.1 Bn2.2) hZ (hw _ (List.mem_of_getElem? (i := 9) rfl)) (hw _ (List.mem_of_getElem? (i := 6) rfl)) (by decide) (by decide)) (g := (mkF m 125 #[.val (.int p1), .val (.int p2), .val (.int p3), .val (.int p4), .val (.int (1 : Int32)), .val (.int (1 : Int32)), .val (.ref sp), .val (.ref sp), .val (.int (22 : Int32)), .val (.int (22 : Int32)), .val (.int n1), .val (.int n2), .val (.ref b16), .unset, .unset, .unset, .unset, .unset] [(.int n2), (.ref sp), (.ref b20), (.ref b20)])) rfl (by rw [hml]; rfl) (Steps.refl _) (a := b20) (argsL := [(.ref sp), (.int n2)]) (rest := [(.ref b20)]) (lenOf own_pd2 rfl) rfl (by show 2 * 0 + _ ≤ _; exact Nat.le_of_eq rfl) (hb hby at_125) (fun _ _ => ⟨rfl, e20, (by decide : 2 + 0 ≤ _), (by decide : 4 + 0 ≤ _)⟩)
      dsimp only [Pt.U, Pt.locs, Pt.cells, Pt.slots] at X22 l22 y22 z22 st22 hQ22
      subst l22 y22 z22
      obtain ⟨rfl, N22q, K22, F22⟩ := hQ22
      have N22 := Fr.app N18 N22q
      obtain ⟨h22, e22⟩ : ∃ z, z = T22.heap := ⟨_, rfl⟩
      have e22' := e22.symm
      rw [← e22] at K22 F22
      have zs23 := Nat.le_trans zs21 K22.1
      have od23 := od21.keep K22 (allS g_b20 all0)
      refine own_go ?_ (fun tq kt => st22.trans kt)
      show own_Fin _ _ _ _ (T22.setTop (mkF m 128 #[.val (.int p1), .val (.int p2), .val (.int p3), .val (.int p4), .val (.int (1 : Int32)), .val (.int (1 : Int32)), .val (.ref sp), .val (.ref sp), .val (.int (22 : Int32)), .val (.int (22 : Int32)), .val (.int n1), .val (.int n2), .val (.ref b16), .unset, .unset, .unset, .unset, .unset] [(.ref b20)]))
      refine own_go ?_ (fun tq kt => XS.astore X22.here hx rfl (hb hby at_128) rfl rfl (l' := #[.val (.int p1), .val (.int p2), .val (.int p3), .val (.int p4), .val (.int (1 : Int32)), .val (.int (1 : Int32)), .val (.ref sp), .val (.ref sp), .val (.int (22 : Int32)), .val (.int (22 : Int32)), .val (.int n1), .val (.int n2), .val (.ref b16), .val (.ref b20), .unset, .unset, .unset, .unset]) rfl kt)
      show own_Fin _ _ _ _ (T22.setTop (mkF m 130 #[.val (.int p1), .val (.int p2), .val (.int p3), .val (.int p4), .val (.int (1 : Int32)), .val (.int (1 : Int32)), .val (.ref sp), .val (.ref sp), .val (.int (22 : Int32)), .val (.int (22 : Int32)), .val (.int n1), .val (.int n2), .val (.ref b16), .val (.ref b20), .unset, .unset, .unset, .unset] []))
      have hs := own_sub n1 n2 Bn1 Bn2
      have hs' := own_sub n2 n1 Bn2 Bn1
      by_cases h12 : n1 < n2
      · have h21 : ¬ n2 < n1 := Int32.lt_asymm h12
        refine own_go ?_ (fun tq kt => XS.aload X22.here hx rfl (hb hby at_130) rfl rfl kt)
        show own_Fin _ _ _ _ (T22.setTop (mkF m 132 #[.val (.int p1), .val (.int p2), .val (.int p3), .val (.int p4), .val (.int (1 : Int32)), .val (.int (1 : Int32)), .val (.ref sp), .val (.ref sp), .val (.int (22 : Int32)), .val (.int (22 : Int32)), .val (.int n1), .val (.int n2), .val (.ref b16), .val (.ref b20), .unset, .unset, .unset, .unset] [(.ref b16)]))
        refine own_go ?_ (fun tq kt => XS.aload X22.here hx rfl (hb hby at_132) rfl rfl kt)
        show own_Fin _ _ _ _ (T22.setTop (mkF m 134 #[.val (.int p1), .val (.int p2), .val (.int p3), .val (.int p4), .val (.int (1 : Int32)), .val (.int (1 : Int32)), .val (.ref sp), .val (.ref sp), .val (.int (22 : Int32)), .val (.int (22 : Int32)), .val (.int n1), .val (.int n2), .val (.ref b16), .val (.ref b20), .unset, .unset, .unset, .unset] [(.ref b20), (.ref b16)]))
        obtain ⟨cq24, kq24, q24a, q24b, q24c⟩ := isOf hZ e22' (((A16.keep K18).ext E20).keep K22)
        obtain ⟨_, _, ⟨T24, L24, k24, n24⟩, -, X24, ⟨Lc24, hQ24, l24, y24, z24⟩, st24⟩ := X22.virtualBack hx (y := (⟨"com/example/ballast_ledger/ballastledger/CreditRating", "isBelow", "(Lcom/example/ballast_ledger/ballastledger/CreditRating;)Z"⟩ : MethodName)) (z := (⟨"com/example/ballast_ledger/ballastledger/CreditRating", "isBelow", "(Lcom/example/ballast_ledger/ballastledger/CreditRating;)Z"⟩ : MethodName)) hown (mvT hZ (hw _ (List.mem_of_getElem? (i := 36) rfl))) (mvT hZ (hw _ (List.mem_of_getElem? (i := 37) rfl))) (notFace_of_selects (args := #[]) (mvT hZ (hw _ (List.mem_of_getElem? (i := 39) rfl)))) (mvT hZ (hw _ (List.mem_of_getElem? (i := 39) rfl))) (mvT hZ (hw _ (List.mem_of_getElem? (i := 38) rfl))) (by decide) (backOf (W := 0) (rm5 l Z a0 hw [] b16 b20 n1 n2 (0 : Int32) h22 n0 zs23 ((F18.ext E20).keep K22 (ninS ne_b16_b20 nin0)) F22 ⟨fun q => absurd q h21, fun _ => rfl⟩) hZ (hw _ (List.mem_of_getElem? (i := 40) rfl)) (hw _ (List.mem_of_getElem? (i := 6) rfl)) (by decide) (by decide)) q24a q24c (g := (mkF m 134 #[.val (.int p1), .val (.int p2), .val (.int p3), .val (.int p4), .val (.int (1 : Int32)), .val (.int (1 : Int32)), .val (.ref sp), .val (.ref sp), .val (.int (22 : Int32)), .val (.int (22 : Int32)), .val (.int n1), .val (.int n2), .val (.ref b16), .val (.ref b20), .unset, .unset, .unset, .unset] [(.ref b20), (.ref b16)])) rfl (by rw [hml]; rfl) (Steps.refl _) (argsL := [(.ref b20)]) (rest := []) (lenOf own_pd3 rfl) rfl (by show 2 * 0 + _ ≤ _; exact Nat.le_of_eq rfl) (hb hby at_134) (fun _ _ => ⟨rfl, e22', (by decide : 2 + 0 ≤ _), (by decide : 4 + 0 ≤ _)⟩)
        dsimp only [Pt.U, Pt.locs, Pt.cells, Pt.slots] at X24 l24 y24 z24 st24 hQ24
        subst l24 y24 z24
        obtain ⟨rfl, N24q, e24⟩ := hQ24
        have N24 := Fr.app N22 N24q
        refine own_go ?_ (fun tq kt => st24.trans kt)
        show own_Fin _ _ _ _ (T24.setTop (mkF m 137 #[.val (.int p1), .val (.int p2), .val (.int p3), .val (.int p4), .val (.int (1 : Int32)), .val (.int (1 : Int32)), .val (.ref sp), .val (.ref sp), .val (.int (22 : Int32)), .val (.int (22 : Int32)), .val (.int n1), .val (.int n2), .val (.ref b16), .val (.ref b20), .unset, .unset, .unset, .unset] [(.int (0 : Int32))]))
        refine own_go ?_ (fun tq kt => XS.istore X24.here hx rfl (hb hby at_137) rfl (l' := #[.val (.int p1), .val (.int p2), .val (.int p3), .val (.int p4), .val (.int (1 : Int32)), .val (.int (1 : Int32)), .val (.ref sp), .val (.ref sp), .val (.int (22 : Int32)), .val (.int (22 : Int32)), .val (.int n1), .val (.int n2), .val (.ref b16), .val (.ref b20), .val (.int (0 : Int32)), .unset, .unset, .unset]) rfl kt)
        show own_Fin _ _ _ _ (T24.setTop (mkF m 139 #[.val (.int p1), .val (.int p2), .val (.int p3), .val (.int p4), .val (.int (1 : Int32)), .val (.int (1 : Int32)), .val (.ref sp), .val (.ref sp), .val (.int (22 : Int32)), .val (.int (22 : Int32)), .val (.int n1), .val (.int n2), .val (.ref b16), .val (.ref b20), .val (.int (0 : Int32)), .unset, .unset, .unset] []))
        refine own_go ?_ (fun tq kt => XS.aload X24.here hx rfl (hb hby at_139) rfl rfl kt)
        show own_Fin _ _ _ _ (T24.setTop (mkF m 141 #[.val (.int p1), .val (.int p2), .val (.int p3), .val (.int p4), .val (.int (1 : Int32)), .val (.int (1 : Int32)), .val (.ref sp), .val (.ref sp), .val (.int (22 : Int32)), .val (.int (22 : Int32)), .val (.int n1), .val (.int n2), .val (.ref b16), .val (.ref b20), .val (.int (0 : Int32)), .unset, .unset, .unset] [(.ref b20)]))
        refine own_go ?_ (fun tq kt => XS.aload X24.here hx rfl (hb hby at_141) rfl rfl kt)
        show own_Fin _ _ _ _ (T24.setTop (mkF m 143 #[.val (.int p1), .val (.int p2), .val (.int p3), .val (.int p4), .val (.int (1 : Int32)), .val (.int (1 : Int32)), .val (.ref sp), .val (.ref sp), .val (.int (22 : Int32)), .val (.int (22 : Int32)), .val (.int n1), .val (.int n2), .val (.ref b16), .val (.ref b20), .val (.int (0 : Int32)), .unset, .unset, .unset] [(.ref b16), (.ref b20)]))
        obtain ⟨cq25, kq25, q25a, q25b, q25c⟩ := isOf hZ e24 (A20.keep K22)
        obtain ⟨_, _, ⟨T25, L25, k25, n25⟩, -, X25, ⟨Lc25, hQ25, l25, y25, z25⟩, st25⟩ := X24.virtualBack hx (y := (⟨"com/example/ballast_ledger/ballastledger/CreditRating", "isBelow", "(Lcom/example/ballast_ledger/ballastledger/CreditRating;)Z"⟩ : MethodName)) (z := (⟨"com/example/ballast_ledger/ballastledger/CreditRating", "isBelow", "(Lcom/example/ballast_ledger/ballastledger/CreditRating;)Z"⟩ : MethodName)) hown (mvT hZ (hw _ (List.mem_of_getElem? (i := 36) rfl))) (mvT hZ (hw _ (List.mem_of_getElem? (i := 37) rfl))) (notFace_of_selects (args := #[]) (mvT hZ (hw _ (List.mem_of_getElem? (i := 39) rfl)))) (mvT hZ (hw _ (List.mem_of_getElem? (i := 39) rfl))) (mvT hZ (hw _ (List.mem_of_getElem? (i := 38) rfl))) (by decide) (backOf (W := 0) (rm5 l Z a0 hw [] b20 b16 n2 n1 (1 : Int32) h22 n0 zs23 F22 ((F18.ext E20).keep K22 (ninS ne_b16_b20 nin0)) ⟨fun _ => rfl, fun q => absurd h12 q⟩) hZ (hw _ (List.mem_of_getElem? (i := 40) rfl)) (hw _ (List.mem_of_getElem? (i := 6) rfl)) (by decide) (by decide)) q25a q25c (g := (mkF m 143 #[.val (.int p1), .val (.int p2), .val (.int p3), .val (.int p4), .val (.int (1 : Int32)), .val (.int (1 : Int32)), .val (.ref sp), .val (.ref sp), .val (.int (22 : Int32)), .val (.int (22 : Int32)), .val (.int n1), .val (.int n2), .val (.ref b16), .val (.ref b20), .val (.int (0 : Int32)), .unset, .unset, .unset] [(.ref b16), (.ref b20)])) rfl (by rw [hml]; rfl) (Steps.refl _) (argsL := [(.ref b16)]) (rest := []) (lenOf own_pd3 rfl) rfl (by show 2 * 0 + _ ≤ _; exact Nat.le_of_eq rfl) (hb hby at_143) (fun _ _ => ⟨rfl, e24, (by decide : 2 + 0 ≤ _), (by decide : 4 + 0 ≤ _)⟩)
        dsimp only [Pt.U, Pt.locs, Pt.cells, Pt.slots] at X25 l25 y25 z25 st25 hQ25
        subst l25 y25 z25
        obtain ⟨rfl, N25q, e25⟩ := hQ25
        have N25 := Fr.app N24 N25q
        refine own_go ?_ (fun tq kt => st25.trans kt)
        show own_Fin _ _ _ _ (T25.setTop (mkF m 146 #[.val (.int p1), .val (.int p2), .val (.int p3), .val (.int p4), .val (.int (1 : Int32)), .val (.int (1 : Int32)), .val (.ref sp), .val (.ref sp), .val (.int (22 : Int32)), .val (.int (22 : Int32)), .val (.int n1), .val (.int n2), .val (.ref b16), .val (.ref b20), .val (.int (0 : Int32)), .unset, .unset, .unset] [(.int (1 : Int32))]))
        refine own_go ?_ (fun tq kt => XS.istore X25.here hx rfl (hb hby at_146) rfl (l' := #[.val (.int p1), .val (.int p2), .val (.int p3), .val (.int p4), .val (.int (1 : Int32)), .val (.int (1 : Int32)), .val (.ref sp), .val (.ref sp), .val (.int (22 : Int32)), .val (.int (22 : Int32)), .val (.int n1), .val (.int n2), .val (.ref b16), .val (.ref b20), .val (.int (0 : Int32)), .val (.int (1 : Int32)), .unset, .unset]) rfl kt)
        show own_Fin _ _ _ _ (T25.setTop (mkF m 148 #[.val (.int p1), .val (.int p2), .val (.int p3), .val (.int p4), .val (.int (1 : Int32)), .val (.int (1 : Int32)), .val (.ref sp), .val (.ref sp), .val (.int (22 : Int32)), .val (.int (22 : Int32)), .val (.int n1), .val (.int n2), .val (.ref b16), .val (.ref b20), .val (.int (0 : Int32)), .val (.int (1 : Int32)), .unset, .unset] []))
        refine own_go ?_ (fun tq kt => XS.iload X25.here hx rfl (hb hby at_148) rfl kt)
        show own_Fin _ _ _ _ (T25.setTop (mkF m 150 #[.val (.int p1), .val (.int p2), .val (.int p3), .val (.int p4), .val (.int (1 : Int32)), .val (.int (1 : Int32)), .val (.ref sp), .val (.ref sp), .val (.int (22 : Int32)), .val (.int (22 : Int32)), .val (.int n1), .val (.int n2), .val (.ref b16), .val (.ref b20), .val (.int (0 : Int32)), .val (.int (1 : Int32)), .unset, .unset] [(.int n1)]))
        refine own_go ?_ (fun tq kt => XS.iload X25.here hx rfl (hb hby at_150) rfl kt)
        show own_Fin _ _ _ _ (T25.setTop (mkF m 152 #[.val (.int p1), .val (.int p2), .val (.int p3), .val (.int p4), .val (.int (1 : Int32)), .val (.int (1 : Int32)), .val (.ref sp), .val (.ref sp), .val (.int (22 : Int32)), .val (.int (22 : Int32)), .val (.int n1), .val (.int n2), .val (.ref b16), .val (.ref b20), .val (.int (0 : Int32)), .val (.int (1 : Int32)), .unset, .unset] [(.int n2), (.int n1)]))
        refine own_go ?_ (fun tq kt => XS.isub X25.here hx rfl (hb hby at_152) rfl kt)
        show own_Fin _ _ _ _ (T25.setTop (mkF m 153 #[.val (.int p1), .val (.int p2), .val (.int p3), .val (.int p4), .val (.int (1 : Int32)), .val (.int (1 : Int32)), .val (.ref sp), .val (.ref sp), .val (.int (22 : Int32)), .val (.int (22 : Int32)), .val (.int n1), .val (.int n2), .val (.ref b16), .val (.ref b20), .val (.int (0 : Int32)), .val (.int (1 : Int32)), .unset, .unset] [(.int (n1 - n2))]))
        refine own_go ?_ (fun tq kt => XS.iconst X25.here hx rfl (hb hby at_153) kt)
        show own_Fin _ _ _ _ (T25.setTop (mkF m 154 #[.val (.int p1), .val (.int p2), .val (.int p3), .val (.int p4), .val (.int (1 : Int32)), .val (.int (1 : Int32)), .val (.ref sp), .val (.ref sp), .val (.int (22 : Int32)), .val (.int (22 : Int32)), .val (.int n1), .val (.int n2), .val (.ref b16), .val (.ref b20), .val (.int (0 : Int32)), .val (.int (1 : Int32)), .unset, .unset] [(.int (1 : Int32)), (.int (n1 - n2))]))
        refine own_go ?_ (fun tq kt => XS.icmpYes X25.here hx rfl (pc0 := 154) (pc' := 161) rfl (hb hby at_154) rfl (tlt ((hs.2 h21) : (n1 - n2) < (1 : Int32))).1 (by decide) (by decide) kt)
        show own_Fin _ _ _ _ (T25.setTop (mkF m 161 #[.val (.int p1), .val (.int p2), .val (.int p3), .val (.int p4), .val (.int (1 : Int32)), .val (.int (1 : Int32)), .val (.ref sp), .val (.ref sp), .val (.int (22 : Int32)), .val (.int (22 : Int32)), .val (.int n1), .val (.int n2), .val (.ref b16), .val (.ref b20), .val (.int (0 : Int32)), .val (.int (1 : Int32)), .unset, .unset] []))
        refine own_go ?_ (fun tq kt => XS.iconst X25.here hx rfl (hb hby at_161) kt)
        show own_Fin _ _ _ _ (T25.setTop (mkF m 162 #[.val (.int p1), .val (.int p2), .val (.int p3), .val (.int p4), .val (.int (1 : Int32)), .val (.int (1 : Int32)), .val (.ref sp), .val (.ref sp), .val (.int (22 : Int32)), .val (.int (22 : Int32)), .val (.int n1), .val (.int n2), .val (.ref b16), .val (.ref b20), .val (.int (0 : Int32)), .val (.int (1 : Int32)), .unset, .unset] [(.int (0 : Int32))]))
        refine own_go ?_ (fun tq kt => XS.istore X25.here hx rfl (hb hby at_162) rfl (l' := #[.val (.int p1), .val (.int p2), .val (.int p3), .val (.int p4), .val (.int (1 : Int32)), .val (.int (1 : Int32)), .val (.ref sp), .val (.ref sp), .val (.int (22 : Int32)), .val (.int (22 : Int32)), .val (.int n1), .val (.int n2), .val (.ref b16), .val (.ref b20), .val (.int (0 : Int32)), .val (.int (1 : Int32)), .val (.int (0 : Int32)), .unset]) rfl kt)
        show own_Fin _ _ _ _ (T25.setTop (mkF m 164 #[.val (.int p1), .val (.int p2), .val (.int p3), .val (.int p4), .val (.int (1 : Int32)), .val (.int (1 : Int32)), .val (.ref sp), .val (.ref sp), .val (.int (22 : Int32)), .val (.int (22 : Int32)), .val (.int n1), .val (.int n2), .val (.ref b16), .val (.ref b20), .val (.int (0 : Int32)), .val (.int (1 : Int32)), .val (.int (0 : Int32)), .unset] []))
        refine own_go ?_ (fun tq kt => XS.iload X25.here hx rfl (hb hby at_164) rfl kt)
        show own_Fin _ _ _ _ (T25.setTop (mkF m 166 #[.val (.int p1), .val (.int p2), .val (.int p3), .val (.int p4), .val (.int (1 : Int32)), .val (.int (1 : Int32)), .val (.ref sp), .val (.ref sp), .val (.int (22 : Int32)), .val (.int (22 : Int32)), .val (.int n1), .val (.int n2), .val (.ref b16), .val (.ref b20), .val (.int (0 : Int32)), .val (.int (1 : Int32)), .val (.int (0 : Int32)), .unset] [(.int n2)]))
        refine own_go ?_ (fun tq kt => XS.iload X25.here hx rfl (hb hby at_166) rfl kt)
        show own_Fin _ _ _ _ (T25.setTop (mkF m 168 #[.val (.int p1), .val (.int p2), .val (.int p3), .val (.int p4), .val (.int (1 : Int32)), .val (.int (1 : Int32)), .val (.ref sp), .val (.ref sp), .val (.int (22 : Int32)), .val (.int (22 : Int32)), .val (.int n1), .val (.int n2), .val (.ref b16), .val (.ref b20), .val (.int (0 : Int32)), .val (.int (1 : Int32)), .val (.int (0 : Int32)), .unset] [(.int n1), (.int n2)]))
        refine own_go ?_ (fun tq kt => XS.isub X25.here hx rfl (hb hby at_168) rfl kt)
        show own_Fin _ _ _ _ (T25.setTop (mkF m 169 #[.val (.int p1), .val (.int p2), .val (.int p3), .val (.int p4), .val (.int (1 : Int32)), .val (.int (1 : Int32)), .val (.ref sp), .val (.ref sp), .val (.int (22 : Int32)), .val (.int (22 : Int32)), .val (.int n1), .val (.int n2), .val (.ref b16), .val (.ref b20), .val (.int (0 : Int32)), .val (.int (1 : Int32)), .val (.int (0 : Int32)), .unset] [(.int (n2 - n1))]))
        refine own_go ?_ (fun tq kt => XS.iconst X25.here hx rfl (hb hby at_169) kt)
        show own_Fin _ _ _ _ (T25.setTop (mkF m 170 #[.val (.int p1), .val (.int p2), .val (.int p3), .val (.int p4), .val (.int (1 : Int32)), .val (.int (1 : Int32)), .val (.ref sp), .val (.ref sp), .val (.int (22 : Int32)), .val (.int (22 : Int32)), .val (.int n1), .val (.int n2), .val (.ref b16), .val (.ref b20), .val (.int (0 : Int32)), .val (.int (1 : Int32)), .val (.int (0 : Int32)), .unset] [(.int (1 : Int32)), (.int (n2 - n1))]))
        refine own_go ?_ (fun tq kt => XS.icmpNo X25.here hx rfl (hb hby at_170) rfl (flt ((hs'.1 h12) : ¬ ((n2 - n1) < (1 : Int32)))).1 kt)
        show own_Fin _ _ _ _ (T25.setTop (mkF m 173 #[.val (.int p1), .val (.int p2), .val (.int p3), .val (.int p4), .val (.int (1 : Int32)), .val (.int (1 : Int32)), .val (.ref sp), .val (.ref sp), .val (.int (22 : Int32)), .val (.int (22 : Int32)), .val (.int n1), .val (.int n2), .val (.ref b16), .val (.ref b20), .val (.int (0 : Int32)), .val (.int (1 : Int32)), .val (.int (0 : Int32)), .unset] []))
        refine own_go ?_ (fun tq kt => XS.iconst X25.here hx rfl (hb hby at_173) kt)
        show own_Fin _ _ _ _ (T25.setTop (mkF m 174 #[.val (.int p1), .val (.int p2), .val (.int p3), .val (.int p4), .val (.int (1 : Int32)), .val (.int (1 : Int32)), .val (.ref sp), .val (.ref sp), .val (.int (22 : Int32)), .val (.int (22 : Int32)), .val (.int n1), .val (.int n2), .val (.ref b16), .val (.ref b20), .val (.int (0 : Int32)), .val (.int (1 : Int32)), .val (.int (0 : Int32)), .unset] [(.int (1 : Int32))]))
        refine own_go ?_ (fun tq kt => XS.goto X25.here hx rfl (pc0 := 174) (pc' := 178) rfl (hb hby at_174) (by decide) (by decide) kt)
        show own_Fin _ _ _ _ (T25.setTop (mkF m 178 #[.val (.int p1), .val (.int p2), .val (.int p3), .val (.int p4), .val (.int (1 : Int32)), .val (.int (1 : Int32)), .val (.ref sp), .val (.ref sp), .val (.int (22 : Int32)), .val (.int (22 : Int32)), .val (.int n1), .val (.int n2), .val (.ref b16), .val (.ref b20), .val (.int (0 : Int32)), .val (.int (1 : Int32)), .val (.int (0 : Int32)), .unset] [(.int (1 : Int32))]))
        refine own_go ?_ (fun tq kt => XS.istore X25.here hx rfl (hb hby at_178) rfl (l' := #[.val (.int p1), .val (.int p2), .val (.int p3), .val (.int p4), .val (.int (1 : Int32)), .val (.int (1 : Int32)), .val (.ref sp), .val (.ref sp), .val (.int (22 : Int32)), .val (.int (22 : Int32)), .val (.int n1), .val (.int n2), .val (.ref b16), .val (.ref b20), .val (.int (0 : Int32)), .val (.int (1 : Int32)), .val (.int (0 : Int32)), .val (.int (1 : Int32))]) rfl kt)
        show own_Fin _ _ _ _ (T25.setTop (mkF m 180 #[.val (.int p1), .val (.int p2), .val (.int p3), .val (.int p4), .val (.int (1 : Int32)), .val (.int (1 : Int32)), .val (.ref sp), .val (.ref sp), .val (.int (22 : Int32)), .val (.int (22 : Int32)), .val (.int n1), .val (.int n2), .val (.ref b16), .val (.ref b20), .val (.int (0 : Int32)), .val (.int (1 : Int32)), .val (.int (0 : Int32)), .val (.int (1 : Int32))] []))
        refine own_go ?_ (fun tq kt => XS.iload X25.here hx rfl (hb hby at_180) rfl kt)
        show own_Fin _ _ _ _ (T25.setTop (mkF m 182 #[.val (.int p1), .val (.int p2), .val (.int p3), .val (.int p4), .val (.int (1 : Int32)), .val (.int (1 : Int32)), .val (.ref sp), .val (.ref sp), .val (.int (22 : Int32)), .val (.int (22 : Int32)), .val (.int n1), .val (.int n2), .val (.ref b16), .val (.ref b20), .val (.int (0 : Int32)), .val (.int (1 : Int32)), .val (.int (0 : Int32)), .val (.int (1 : Int32))] [(.int (0 : Int32))]))
        refine own_go ?_ (fun tq kt => XS.iload X25.here hx rfl (hb hby at_182) rfl kt)
        show own_Fin _ _ _ _ (T25.setTop (mkF m 184 #[.val (.int p1), .val (.int p2), .val (.int p3), .val (.int p4), .val (.int (1 : Int32)), .val (.int (1 : Int32)), .val (.ref sp), .val (.ref sp), .val (.int (22 : Int32)), .val (.int (22 : Int32)), .val (.int n1), .val (.int n2), .val (.ref b16), .val (.ref b20), .val (.int (0 : Int32)), .val (.int (1 : Int32)), .val (.int (0 : Int32)), .val (.int (1 : Int32))] [(.int (0 : Int32)), (.int (0 : Int32))]))
        refine own_go ?_ (fun tq kt => XS.icmpNo X25.here hx rfl (hb hby at_184) rfl (teq (rfl : (0 : Int32) = (0 : Int32))).2 kt)
        show own_Fin _ _ _ _ (T25.setTop (mkF m 187 #[.val (.int p1), .val (.int p2), .val (.int p3), .val (.int p4), .val (.int (1 : Int32)), .val (.int (1 : Int32)), .val (.ref sp), .val (.ref sp), .val (.int (22 : Int32)), .val (.int (22 : Int32)), .val (.int n1), .val (.int n2), .val (.ref b16), .val (.ref b20), .val (.int (0 : Int32)), .val (.int (1 : Int32)), .val (.int (0 : Int32)), .val (.int (1 : Int32))] []))
        refine own_go ?_ (fun tq kt => XS.iload X25.here hx rfl (hb hby at_187) rfl kt)
        show own_Fin _ _ _ _ (T25.setTop (mkF m 189 #[.val (.int p1), .val (.int p2), .val (.int p3), .val (.int p4), .val (.int (1 : Int32)), .val (.int (1 : Int32)), .val (.ref sp), .val (.ref sp), .val (.int (22 : Int32)), .val (.int (22 : Int32)), .val (.int n1), .val (.int n2), .val (.ref b16), .val (.ref b20), .val (.int (0 : Int32)), .val (.int (1 : Int32)), .val (.int (0 : Int32)), .val (.int (1 : Int32))] [(.int (1 : Int32))]))
        refine own_go ?_ (fun tq kt => XS.iload X25.here hx rfl (hb hby at_189) rfl kt)
        show own_Fin _ _ _ _ (T25.setTop (mkF m 191 #[.val (.int p1), .val (.int p2), .val (.int p3), .val (.int p4), .val (.int (1 : Int32)), .val (.int (1 : Int32)), .val (.ref sp), .val (.ref sp), .val (.int (22 : Int32)), .val (.int (22 : Int32)), .val (.int n1), .val (.int n2), .val (.ref b16), .val (.ref b20), .val (.int (0 : Int32)), .val (.int (1 : Int32)), .val (.int (0 : Int32)), .val (.int (1 : Int32))] [(.int (1 : Int32)), (.int (1 : Int32))]))
        refine own_go ?_ (fun tq kt => XS.icmpNo X25.here hx rfl (hb hby at_191) rfl (teq (rfl : (1 : Int32) = (1 : Int32))).2 kt)
        show own_Fin _ _ _ _ (T25.setTop (mkF m 194 #[.val (.int p1), .val (.int p2), .val (.int p3), .val (.int p4), .val (.int (1 : Int32)), .val (.int (1 : Int32)), .val (.ref sp), .val (.ref sp), .val (.int (22 : Int32)), .val (.int (22 : Int32)), .val (.int n1), .val (.int n2), .val (.ref b16), .val (.ref b20), .val (.int (0 : Int32)), .val (.int (1 : Int32)), .val (.int (0 : Int32)), .val (.int (1 : Int32))] []))
        refine own_go ?_ (fun tq kt => XS.iconst X25.here hx rfl (hb hby at_194) kt)
        show own_Fin _ _ _ _ (T25.setTop (mkF m 195 #[.val (.int p1), .val (.int p2), .val (.int p3), .val (.int p4), .val (.int (1 : Int32)), .val (.int (1 : Int32)), .val (.ref sp), .val (.ref sp), .val (.int (22 : Int32)), .val (.int (22 : Int32)), .val (.int n1), .val (.int n2), .val (.ref b16), .val (.ref b20), .val (.int (0 : Int32)), .val (.int (1 : Int32)), .val (.int (0 : Int32)), .val (.int (1 : Int32))] [(.int (1 : Int32))]))
        refine own_go ?_ (fun tq kt => XS.goto X25.here hx rfl (pc0 := 195) (pc' := 199) rfl (hb hby at_195) (by decide) (by decide) kt)
        show own_Fin _ _ _ _ (T25.setTop (mkF m 199 #[.val (.int p1), .val (.int p2), .val (.int p3), .val (.int p4), .val (.int (1 : Int32)), .val (.int (1 : Int32)), .val (.ref sp), .val (.ref sp), .val (.int (22 : Int32)), .val (.int (22 : Int32)), .val (.int n1), .val (.int n2), .val (.ref b16), .val (.ref b20), .val (.int (0 : Int32)), .val (.int (1 : Int32)), .val (.int (0 : Int32)), .val (.int (1 : Int32))] [(.int (1 : Int32))]))
        refine own_retN X25 hx (t := .boolean) Bd.returns (by simp) (hb hby at_199) hlk ?_ (by decide) (by decide)
        exact ⟨rfl, N25⟩
      · by_cases h21 : n2 < n1
        · skip
          refine own_go ?_ (fun tq kt => XS.aload X22.here hx rfl (hb hby at_130) rfl rfl kt)
          show own_Fin _ _ _ _ (T22.setTop (mkF m 132 #[.val (.int p1), .val (.int p2), .val (.int p3), .val (.int p4), .val (.int (1 : Int32)), .val (.int (1 : Int32)), .val (.ref sp), .val (.ref sp), .val (.int (22 : Int32)), .val (.int (22 : Int32)), .val (.int n1), .val (.int n2), .val (.ref b16), .val (.ref b20), .unset, .unset, .unset, .unset] [(.ref b16)]))
          refine own_go ?_ (fun tq kt => XS.aload X22.here hx rfl (hb hby at_132) rfl rfl kt)
          show own_Fin _ _ _ _ (T22.setTop (mkF m 134 #[.val (.int p1), .val (.int p2), .val (.int p3), .val (.int p4), .val (.int (1 : Int32)), .val (.int (1 : Int32)), .val (.ref sp), .val (.ref sp), .val (.int (22 : Int32)), .val (.int (22 : Int32)), .val (.int n1), .val (.int n2), .val (.ref b16), .val (.ref b20), .unset, .unset, .unset, .unset] [(.ref b20), (.ref b16)]))
          obtain ⟨cq26, kq26, q26a, q26b, q26c⟩ := isOf hZ e22' (((A16.keep K18).ext E20).keep K22)
          obtain ⟨_, _, ⟨T26, L26, k26, n26⟩, -, X26, ⟨Lc26, hQ26, l26, y26, z26⟩, st26⟩ := X22.virtualBack hx (y := (⟨"com/example/ballast_ledger/ballastledger/CreditRating", "isBelow", "(Lcom/example/ballast_ledger/ballastledger/CreditRating;)Z"⟩ : MethodName)) (z := (⟨"com/example/ballast_ledger/ballastledger/CreditRating", "isBelow", "(Lcom/example/ballast_ledger/ballastledger/CreditRating;)Z"⟩ : MethodName)) hown (mvT hZ (hw _ (List.mem_of_getElem? (i := 36) rfl))) (mvT hZ (hw _ (List.mem_of_getElem? (i := 37) rfl))) (notFace_of_selects (args := #[]) (mvT hZ (hw _ (List.mem_of_getElem? (i := 39) rfl)))) (mvT hZ (hw _ (List.mem_of_getElem? (i := 39) rfl))) (mvT hZ (hw _ (List.mem_of_getElem? (i := 38) rfl))) (by decide) (backOf (W := 0) (rm5 l Z a0 hw [] b16 b20 n1 n2 (1 : Int32) h22 n0 zs23 ((F18.ext E20).keep K22 (ninS ne_b16_b20 nin0)) F22 ⟨fun _ => rfl, fun q => absurd h21 q⟩) hZ (hw _ (List.mem_of_getElem? (i := 40) rfl)) (hw _ (List.mem_of_getElem? (i := 6) rfl)) (by decide) (by decide)) q26a q26c (g := (mkF m 134 #[.val (.int p1), .val (.int p2), .val (.int p3), .val (.int p4), .val (.int (1 : Int32)), .val (.int (1 : Int32)), .val (.ref sp), .val (.ref sp), .val (.int (22 : Int32)), .val (.int (22 : Int32)), .val (.int n1), .val (.int n2), .val (.ref b16), .val (.ref b20), .unset, .unset, .unset, .unset] [(.ref b20), (.ref b16)])) rfl (by rw [hml]; rfl) (Steps.refl _) (argsL := [(.ref b20)]) (rest := []) (lenOf own_pd3 rfl) rfl (by show 2 * 0 + _ ≤ _; exact Nat.le_of_eq rfl) (hb hby at_134) (fun _ _ => ⟨rfl, e22', (by decide : 2 + 0 ≤ _), (by decide : 4 + 0 ≤ _)⟩)
          dsimp only [Pt.U, Pt.locs, Pt.cells, Pt.slots] at X26 l26 y26 z26 st26 hQ26
          subst l26 y26 z26
          obtain ⟨rfl, N26q, e26⟩ := hQ26
          have N26 := Fr.app N22 N26q
          refine own_go ?_ (fun tq kt => st26.trans kt)
          show own_Fin _ _ _ _ (T26.setTop (mkF m 137 #[.val (.int p1), .val (.int p2), .val (.int p3), .val (.int p4), .val (.int (1 : Int32)), .val (.int (1 : Int32)), .val (.ref sp), .val (.ref sp), .val (.int (22 : Int32)), .val (.int (22 : Int32)), .val (.int n1), .val (.int n2), .val (.ref b16), .val (.ref b20), .unset, .unset, .unset, .unset] [(.int (1 : Int32))]))
          refine own_go ?_ (fun tq kt => XS.istore X26.here hx rfl (hb hby at_137) rfl (l' := #[.val (.int p1), .val (.int p2), .val (.int p3), .val (.int p4), .val (.int (1 : Int32)), .val (.int (1 : Int32)), .val (.ref sp), .val (.ref sp), .val (.int (22 : Int32)), .val (.int (22 : Int32)), .val (.int n1), .val (.int n2), .val (.ref b16), .val (.ref b20), .val (.int (1 : Int32)), .unset, .unset, .unset]) rfl kt)
          show own_Fin _ _ _ _ (T26.setTop (mkF m 139 #[.val (.int p1), .val (.int p2), .val (.int p3), .val (.int p4), .val (.int (1 : Int32)), .val (.int (1 : Int32)), .val (.ref sp), .val (.ref sp), .val (.int (22 : Int32)), .val (.int (22 : Int32)), .val (.int n1), .val (.int n2), .val (.ref b16), .val (.ref b20), .val (.int (1 : Int32)), .unset, .unset, .unset] []))
          refine own_go ?_ (fun tq kt => XS.aload X26.here hx rfl (hb hby at_139) rfl rfl kt)
          show own_Fin _ _ _ _ (T26.setTop (mkF m 141 #[.val (.int p1), .val (.int p2), .val (.int p3), .val (.int p4), .val (.int (1 : Int32)), .val (.int (1 : Int32)), .val (.ref sp), .val (.ref sp), .val (.int (22 : Int32)), .val (.int (22 : Int32)), .val (.int n1), .val (.int n2), .val (.ref b16), .val (.ref b20), .val (.int (1 : Int32)), .unset, .unset, .unset] [(.ref b20)]))
          refine own_go ?_ (fun tq kt => XS.aload X26.here hx rfl (hb hby at_141) rfl rfl kt)
          show own_Fin _ _ _ _ (T26.setTop (mkF m 143 #[.val (.int p1), .val (.int p2), .val (.int p3), .val (.int p4), .val (.int (1 : Int32)), .val (.int (1 : Int32)), .val (.ref sp), .val (.ref sp), .val (.int (22 : Int32)), .val (.int (22 : Int32)), .val (.int n1), .val (.int n2), .val (.ref b16), .val (.ref b20), .val (.int (1 : Int32)), .unset, .unset, .unset] [(.ref b16), (.ref b20)]))
          obtain ⟨cq27, kq27, q27a, q27b, q27c⟩ := isOf hZ e26 (A20.keep K22)
          obtain ⟨_, _, ⟨T27, L27, k27, n27⟩, -, X27, ⟨Lc27, hQ27, l27, y27, z27⟩, st27⟩ := X26.virtualBack hx (y := (⟨"com/example/ballast_ledger/ballastledger/CreditRating", "isBelow", "(Lcom/example/ballast_ledger/ballastledger/CreditRating;)Z"⟩ : MethodName)) (z := (⟨"com/example/ballast_ledger/ballastledger/CreditRating", "isBelow", "(Lcom/example/ballast_ledger/ballastledger/CreditRating;)Z"⟩ : MethodName)) hown (mvT hZ (hw _ (List.mem_of_getElem? (i := 36) rfl))) (mvT hZ (hw _ (List.mem_of_getElem? (i := 37) rfl))) (notFace_of_selects (args := #[]) (mvT hZ (hw _ (List.mem_of_getElem? (i := 39) rfl)))) (mvT hZ (hw _ (List.mem_of_getElem? (i := 39) rfl))) (mvT hZ (hw _ (List.mem_of_getElem? (i := 38) rfl))) (by decide) (backOf (W := 0) (rm5 l Z a0 hw [] b20 b16 n2 n1 (0 : Int32) h22 n0 zs23 F22 ((F18.ext E20).keep K22 (ninS ne_b16_b20 nin0)) ⟨fun q => absurd q h12, fun _ => rfl⟩) hZ (hw _ (List.mem_of_getElem? (i := 40) rfl)) (hw _ (List.mem_of_getElem? (i := 6) rfl)) (by decide) (by decide)) q27a q27c (g := (mkF m 143 #[.val (.int p1), .val (.int p2), .val (.int p3), .val (.int p4), .val (.int (1 : Int32)), .val (.int (1 : Int32)), .val (.ref sp), .val (.ref sp), .val (.int (22 : Int32)), .val (.int (22 : Int32)), .val (.int n1), .val (.int n2), .val (.ref b16), .val (.ref b20), .val (.int (1 : Int32)), .unset, .unset, .unset] [(.ref b16), (.ref b20)])) rfl (by rw [hml]; rfl) (Steps.refl _) (argsL := [(.ref b16)]) (rest := []) (lenOf own_pd3 rfl) rfl (by show 2 * 0 + _ ≤ _; exact Nat.le_of_eq rfl) (hb hby at_143) (fun _ _ => ⟨rfl, e26, (by decide : 2 + 0 ≤ _), (by decide : 4 + 0 ≤ _)⟩)
          dsimp only [Pt.U, Pt.locs, Pt.cells, Pt.slots] at X27 l27 y27 z27 st27 hQ27
          subst l27 y27 z27
          obtain ⟨rfl, N27q, e27⟩ := hQ27
          have N27 := Fr.app N26 N27q
          refine own_go ?_ (fun tq kt => st27.trans kt)
          show own_Fin _ _ _ _ (T27.setTop (mkF m 146 #[.val (.int p1), .val (.int p2), .val (.int p3), .val (.int p4), .val (.int (1 : Int32)), .val (.int (1 : Int32)), .val (.ref sp), .val (.ref sp), .val (.int (22 : Int32)), .val (.int (22 : Int32)), .val (.int n1), .val (.int n2), .val (.ref b16), .val (.ref b20), .val (.int (1 : Int32)), .unset, .unset, .unset] [(.int (0 : Int32))]))
          refine own_go ?_ (fun tq kt => XS.istore X27.here hx rfl (hb hby at_146) rfl (l' := #[.val (.int p1), .val (.int p2), .val (.int p3), .val (.int p4), .val (.int (1 : Int32)), .val (.int (1 : Int32)), .val (.ref sp), .val (.ref sp), .val (.int (22 : Int32)), .val (.int (22 : Int32)), .val (.int n1), .val (.int n2), .val (.ref b16), .val (.ref b20), .val (.int (1 : Int32)), .val (.int (0 : Int32)), .unset, .unset]) rfl kt)
          show own_Fin _ _ _ _ (T27.setTop (mkF m 148 #[.val (.int p1), .val (.int p2), .val (.int p3), .val (.int p4), .val (.int (1 : Int32)), .val (.int (1 : Int32)), .val (.ref sp), .val (.ref sp), .val (.int (22 : Int32)), .val (.int (22 : Int32)), .val (.int n1), .val (.int n2), .val (.ref b16), .val (.ref b20), .val (.int (1 : Int32)), .val (.int (0 : Int32)), .unset, .unset] []))
          refine own_go ?_ (fun tq kt => XS.iload X27.here hx rfl (hb hby at_148) rfl kt)
          show own_Fin _ _ _ _ (T27.setTop (mkF m 150 #[.val (.int p1), .val (.int p2), .val (.int p3), .val (.int p4), .val (.int (1 : Int32)), .val (.int (1 : Int32)), .val (.ref sp), .val (.ref sp), .val (.int (22 : Int32)), .val (.int (22 : Int32)), .val (.int n1), .val (.int n2), .val (.ref b16), .val (.ref b20), .val (.int (1 : Int32)), .val (.int (0 : Int32)), .unset, .unset] [(.int n1)]))
          refine own_go ?_ (fun tq kt => XS.iload X27.here hx rfl (hb hby at_150) rfl kt)
          show own_Fin _ _ _ _ (T27.setTop (mkF m 152 #[.val (.int p1), .val (.int p2), .val (.int p3), .val (.int p4), .val (.int (1 : Int32)), .val (.int (1 : Int32)), .val (.ref sp), .val (.ref sp), .val (.int (22 : Int32)), .val (.int (22 : Int32)), .val (.int n1), .val (.int n2), .val (.ref b16), .val (.ref b20), .val (.int (1 : Int32)), .val (.int (0 : Int32)), .unset, .unset] [(.int n2), (.int n1)]))
          refine own_go ?_ (fun tq kt => XS.isub X27.here hx rfl (hb hby at_152) rfl kt)
          show own_Fin _ _ _ _ (T27.setTop (mkF m 153 #[.val (.int p1), .val (.int p2), .val (.int p3), .val (.int p4), .val (.int (1 : Int32)), .val (.int (1 : Int32)), .val (.ref sp), .val (.ref sp), .val (.int (22 : Int32)), .val (.int (22 : Int32)), .val (.int n1), .val (.int n2), .val (.ref b16), .val (.ref b20), .val (.int (1 : Int32)), .val (.int (0 : Int32)), .unset, .unset] [(.int (n1 - n2))]))
          refine own_go ?_ (fun tq kt => XS.iconst X27.here hx rfl (hb hby at_153) kt)
          show own_Fin _ _ _ _ (T27.setTop (mkF m 154 #[.val (.int p1), .val (.int p2), .val (.int p3), .val (.int p4), .val (.int (1 : Int32)), .val (.int (1 : Int32)), .val (.ref sp), .val (.ref sp), .val (.int (22 : Int32)), .val (.int (22 : Int32)), .val (.int n1), .val (.int n2), .val (.ref b16), .val (.ref b20), .val (.int (1 : Int32)), .val (.int (0 : Int32)), .unset, .unset] [(.int (1 : Int32)), (.int (n1 - n2))]))
          refine own_go ?_ (fun tq kt => XS.icmpNo X27.here hx rfl (hb hby at_154) rfl (flt ((hs.1 h21) : ¬ ((n1 - n2) < (1 : Int32)))).1 kt)
          show own_Fin _ _ _ _ (T27.setTop (mkF m 157 #[.val (.int p1), .val (.int p2), .val (.int p3), .val (.int p4), .val (.int (1 : Int32)), .val (.int (1 : Int32)), .val (.ref sp), .val (.ref sp), .val (.int (22 : Int32)), .val (.int (22 : Int32)), .val (.int n1), .val (.int n2), .val (.ref b16), .val (.ref b20), .val (.int (1 : Int32)), .val (.int (0 : Int32)), .unset, .unset] []))
          refine own_go ?_ (fun tq kt => XS.iconst X27.here hx rfl (hb hby at_157) kt)
          show own_Fin _ _ _ _ (T27.setTop (mkF m 158 #[.val (.int p1), .val (.int p2), .val (.int p3), .val (.int p4), .val (.int (1 : Int32)), .val (.int (1 : Int32)), .val (.ref sp), .val (.ref sp), .val (.int (22 : Int32)), .val (.int (22 : Int32)), .val (.int n1), .val (.int n2), .val (.ref b16), .val (.ref b20), .val (.int (1 : Int32)), .val (.int (0 : Int32)), .unset, .unset] [(.int (1 : Int32))]))
          refine own_go ?_ (fun tq kt => XS.goto X27.here hx rfl (pc0 := 158) (pc' := 162) rfl (hb hby at_158) (by decide) (by decide) kt)
          show own_Fin _ _ _ _ (T27.setTop (mkF m 162 #[.val (.int p1), .val (.int p2), .val (.int p3), .val (.int p4), .val (.int (1 : Int32)), .val (.int (1 : Int32)), .val (.ref sp), .val (.ref sp), .val (.int (22 : Int32)), .val (.int (22 : Int32)), .val (.int n1), .val (.int n2), .val (.ref b16), .val (.ref b20), .val (.int (1 : Int32)), .val (.int (0 : Int32)), .unset, .unset] [(.int (1 : Int32))]))
          refine own_go ?_ (fun tq kt => XS.istore X27.here hx rfl (hb hby at_162) rfl (l' := #[.val (.int p1), .val (.int p2), .val (.int p3), .val (.int p4), .val (.int (1 : Int32)), .val (.int (1 : Int32)), .val (.ref sp), .val (.ref sp), .val (.int (22 : Int32)), .val (.int (22 : Int32)), .val (.int n1), .val (.int n2), .val (.ref b16), .val (.ref b20), .val (.int (1 : Int32)), .val (.int (0 : Int32)), .val (.int (1 : Int32)), .unset]) rfl kt)
          show own_Fin _ _ _ _ (T27.setTop (mkF m 164 #[.val (.int p1), .val (.int p2), .val (.int p3), .val (.int p4), .val (.int (1 : Int32)), .val (.int (1 : Int32)), .val (.ref sp), .val (.ref sp), .val (.int (22 : Int32)), .val (.int (22 : Int32)), .val (.int n1), .val (.int n2), .val (.ref b16), .val (.ref b20), .val (.int (1 : Int32)), .val (.int (0 : Int32)), .val (.int (1 : Int32)), .unset] []))
          refine own_go ?_ (fun tq kt => XS.iload X27.here hx rfl (hb hby at_164) rfl kt)
          show own_Fin _ _ _ _ (T27.setTop (mkF m 166 #[.val (.int p1), .val (.int p2), .val (.int p3), .val (.int p4), .val (.int (1 : Int32)), .val (.int (1 : Int32)), .val (.ref sp), .val (.ref sp), .val (.int (22 : Int32)), .val (.int (22 : Int32)), .val (.int n1), .val (.int n2), .val (.ref b16), .val (.ref b20), .val (.int (1 : Int32)), .val (.int (0 : Int32)), .val (.int (1 : Int32)), .unset] [(.int n2)]))
          refine own_go ?_ (fun tq kt => XS.iload X27.here hx rfl (hb hby at_166) rfl kt)
          show own_Fin _ _ _ _ (T27.setTop (mkF m 168 #[.val (.int p1), .val (.int p2), .val (.int p3), .val (.int p4), .val (.int (1 : Int32)), .val (.int (1 : Int32)), .val (.ref sp), .val (.ref sp), .val (.int (22 : Int32)), .val (.int (22 : Int32)), .val (.int n1), .val (.int n2), .val (.ref b16), .val (.ref b20), .val (.int (1 : Int32)), .val (.int (0 : Int32)), .val (.int (1 : Int32)), .unset] [(.int n1), (.int n2)]))
          refine own_go ?_ (fun tq kt => XS.isub X27.here hx rfl (hb hby at_168) rfl kt)
          show own_Fin _ _ _ _ (T27.setTop (mkF m 169 #[.val (.int p1), .val (.int p2), .val (.int p3), .val (.int p4), .val (.int (1 : Int32)), .val (.int (1 : Int32)), .val (.ref sp), .val (.ref sp), .val (.int (22 : Int32)), .val (.int (22 : Int32)), .val (.int n1), .val (.int n2), .val (.ref b16), .val (.ref b20), .val (.int (1 : Int32)), .val (.int (0 : Int32)), .val (.int (1 : Int32)), .unset] [(.int (n2 - n1))]))
          refine own_go ?_ (fun tq kt => XS.iconst X27.here hx rfl (hb hby at_169) kt)
          show own_Fin _ _ _ _ (T27.setTop (mkF m 170 #[.val (.int p1), .val (.int p2), .val (.int p3), .val (.int p4), .val (.int (1 : Int32)), .val (.int (1 : Int32)), .val (.ref sp), .val (.ref sp), .val (.int (22 : Int32)), .val (.int (22 : Int32)), .val (.int n1), .val (.int n2), .val (.ref b16), .val (.ref b20), .val (.int (1 : Int32)), .val (.int (0 : Int32)), .val (.int (1 : Int32)), .unset] [(.int (1 : Int32)), (.int (n2 - n1))]))
          refine own_go ?_ (fun tq kt => XS.icmpYes X27.here hx rfl (pc0 := 170) (pc' := 177) rfl (hb hby at_170) rfl (tlt ((hs'.2 h12) : (n2 - n1) < (1 : Int32))).1 (by decide) (by decide) kt)
          show own_Fin _ _ _ _ (T27.setTop (mkF m 177 #[.val (.int p1), .val (.int p2), .val (.int p3), .val (.int p4), .val (.int (1 : Int32)), .val (.int (1 : Int32)), .val (.ref sp), .val (.ref sp), .val (.int (22 : Int32)), .val (.int (22 : Int32)), .val (.int n1), .val (.int n2), .val (.ref b16), .val (.ref b20), .val (.int (1 : Int32)), .val (.int (0 : Int32)), .val (.int (1 : Int32)), .unset] []))
          refine own_go ?_ (fun tq kt => XS.iconst X27.here hx rfl (hb hby at_177) kt)
          show own_Fin _ _ _ _ (T27.setTop (mkF m 178 #[.val (.int p1), .val (.int p2), .val (.int p3), .val (.int p4), .val (.int (1 : Int32)), .val (.int (1 : Int32)), .val (.ref sp), .val (.ref sp), .val (.int (22 : Int32)), .val (.int (22 : Int32)), .val (.int n1), .val (.int n2), .val (.ref b16), .val (.ref b20), .val (.int (1 : Int32)), .val (.int (0 : Int32)), .val (.int (1 : Int32)), .unset] [(.int (0 : Int32))]))
          refine own_go ?_ (fun tq kt => XS.istore X27.here hx rfl (hb hby at_178) rfl (l' := #[.val (.int p1), .val (.int p2), .val (.int p3), .val (.int p4), .val (.int (1 : Int32)), .val (.int (1 : Int32)), .val (.ref sp), .val (.ref sp), .val (.int (22 : Int32)), .val (.int (22 : Int32)), .val (.int n1), .val (.int n2), .val (.ref b16), .val (.ref b20), .val (.int (1 : Int32)), .val (.int (0 : Int32)), .val (.int (1 : Int32)), .val (.int (0 : Int32))]) rfl kt)
          show own_Fin _ _ _ _ (T27.setTop (mkF m 180 #[.val (.int p1), .val (.int p2), .val (.int p3), .val (.int p4), .val (.int (1 : Int32)), .val (.int (1 : Int32)), .val (.ref sp), .val (.ref sp), .val (.int (22 : Int32)), .val (.int (22 : Int32)), .val (.int n1), .val (.int n2), .val (.ref b16), .val (.ref b20), .val (.int (1 : Int32)), .val (.int (0 : Int32)), .val (.int (1 : Int32)), .val (.int (0 : Int32))] []))
          refine own_go ?_ (fun tq kt => XS.iload X27.here hx rfl (hb hby at_180) rfl kt)
          show own_Fin _ _ _ _ (T27.setTop (mkF m 182 #[.val (.int p1), .val (.int p2), .val (.int p3), .val (.int p4), .val (.int (1 : Int32)), .val (.int (1 : Int32)), .val (.ref sp), .val (.ref sp), .val (.int (22 : Int32)), .val (.int (22 : Int32)), .val (.int n1), .val (.int n2), .val (.ref b16), .val (.ref b20), .val (.int (1 : Int32)), .val (.int (0 : Int32)), .val (.int (1 : Int32)), .val (.int (0 : Int32))] [(.int (1 : Int32))]))
          refine own_go ?_ (fun tq kt => XS.iload X27.here hx rfl (hb hby at_182) rfl kt)
          show own_Fin _ _ _ _ (T27.setTop (mkF m 184 #[.val (.int p1), .val (.int p2), .val (.int p3), .val (.int p4), .val (.int (1 : Int32)), .val (.int (1 : Int32)), .val (.ref sp), .val (.ref sp), .val (.int (22 : Int32)), .val (.int (22 : Int32)), .val (.int n1), .val (.int n2), .val (.ref b16), .val (.ref b20), .val (.int (1 : Int32)), .val (.int (0 : Int32)), .val (.int (1 : Int32)), .val (.int (0 : Int32))] [(.int (1 : Int32)), (.int (1 : Int32))]))
          refine own_go ?_ (fun tq kt => XS.icmpNo X27.here hx rfl (hb hby at_184) rfl (teq (rfl : (1 : Int32) = (1 : Int32))).2 kt)
          show own_Fin _ _ _ _ (T27.setTop (mkF m 187 #[.val (.int p1), .val (.int p2), .val (.int p3), .val (.int p4), .val (.int (1 : Int32)), .val (.int (1 : Int32)), .val (.ref sp), .val (.ref sp), .val (.int (22 : Int32)), .val (.int (22 : Int32)), .val (.int n1), .val (.int n2), .val (.ref b16), .val (.ref b20), .val (.int (1 : Int32)), .val (.int (0 : Int32)), .val (.int (1 : Int32)), .val (.int (0 : Int32))] []))
          refine own_go ?_ (fun tq kt => XS.iload X27.here hx rfl (hb hby at_187) rfl kt)
          show own_Fin _ _ _ _ (T27.setTop (mkF m 189 #[.val (.int p1), .val (.int p2), .val (.int p3), .val (.int p4), .val (.int (1 : Int32)), .val (.int (1 : Int32)), .val (.ref sp), .val (.ref sp), .val (.int (22 : Int32)), .val (.int (22 : Int32)), .val (.int n1), .val (.int n2), .val (.ref b16), .val (.ref b20), .val (.int (1 : Int32)), .val (.int (0 : Int32)), .val (.int (1 : Int32)), .val (.int (0 : Int32))] [(.int (0 : Int32))]))
          refine own_go ?_ (fun tq kt => XS.iload X27.here hx rfl (hb hby at_189) rfl kt)
          show own_Fin _ _ _ _ (T27.setTop (mkF m 191 #[.val (.int p1), .val (.int p2), .val (.int p3), .val (.int p4), .val (.int (1 : Int32)), .val (.int (1 : Int32)), .val (.ref sp), .val (.ref sp), .val (.int (22 : Int32)), .val (.int (22 : Int32)), .val (.int n1), .val (.int n2), .val (.ref b16), .val (.ref b20), .val (.int (1 : Int32)), .val (.int (0 : Int32)), .val (.int (1 : Int32)), .val (.int (0 : Int32))] [(.int (0 : Int32)), (.int (0 : Int32))]))
          refine own_go ?_ (fun tq kt => XS.icmpNo X27.here hx rfl (hb hby at_191) rfl (teq (rfl : (0 : Int32) = (0 : Int32))).2 kt)
          show own_Fin _ _ _ _ (T27.setTop (mkF m 194 #[.val (.int p1), .val (.int p2), .val (.int p3), .val (.int p4), .val (.int (1 : Int32)), .val (.int (1 : Int32)), .val (.ref sp), .val (.ref sp), .val (.int (22 : Int32)), .val (.int (22 : Int32)), .val (.int n1), .val (.int n2), .val (.ref b16), .val (.ref b20), .val (.int (1 : Int32)), .val (.int (0 : Int32)), .val (.int (1 : Int32)), .val (.int (0 : Int32))] []))
          refine own_go ?_ (fun tq kt => XS.iconst X27.here hx rfl (hb hby at_194) kt)
          show own_Fin _ _ _ _ (T27.setTop (mkF m 195 #[.val (.int p1), .val (.int p2), .val (.int p3), .val (.int p4), .val (.int (1 : Int32)), .val (.int (1 : Int32)), .val (.ref sp), .val (.ref sp), .val (.int (22 : Int32)), .val (.int (22 : Int32)), .val (.int n1), .val (.int n2), .val (.ref b16), .val (.ref b20), .val (.int (1 : Int32)), .val (.int (0 : Int32)), .val (.int (1 : Int32)), .val (.int (0 : Int32))] [(.int (1 : Int32))]))
          refine own_go ?_ (fun tq kt => XS.goto X27.here hx rfl (pc0 := 195) (pc' := 199) rfl (hb hby at_195) (by decide) (by decide) kt)
          show own_Fin _ _ _ _ (T27.setTop (mkF m 199 #[.val (.int p1), .val (.int p2), .val (.int p3), .val (.int p4), .val (.int (1 : Int32)), .val (.int (1 : Int32)), .val (.ref sp), .val (.ref sp), .val (.int (22 : Int32)), .val (.int (22 : Int32)), .val (.int n1), .val (.int n2), .val (.ref b16), .val (.ref b20), .val (.int (1 : Int32)), .val (.int (0 : Int32)), .val (.int (1 : Int32)), .val (.int (0 : Int32))] [(.int (1 : Int32))]))
          refine own_retN X27 hx (t := .boolean) Bd.returns (by simp) (hb hby at_199) hlk ?_ (by decide) (by decide)
          exact ⟨rfl, N27⟩
        · skip
          refine own_go ?_ (fun tq kt => XS.aload X22.here hx rfl (hb hby at_130) rfl rfl kt)
          show own_Fin _ _ _ _ (T22.setTop (mkF m 132 #[.val (.int p1), .val (.int p2), .val (.int p3), .val (.int p4), .val (.int (1 : Int32)), .val (.int (1 : Int32)), .val (.ref sp), .val (.ref sp), .val (.int (22 : Int32)), .val (.int (22 : Int32)), .val (.int n1), .val (.int n2), .val (.ref b16), .val (.ref b20), .unset, .unset, .unset, .unset] [(.ref b16)]))
          refine own_go ?_ (fun tq kt => XS.aload X22.here hx rfl (hb hby at_132) rfl rfl kt)
          show own_Fin _ _ _ _ (T22.setTop (mkF m 134 #[.val (.int p1), .val (.int p2), .val (.int p3), .val (.int p4), .val (.int (1 : Int32)), .val (.int (1 : Int32)), .val (.ref sp), .val (.ref sp), .val (.int (22 : Int32)), .val (.int (22 : Int32)), .val (.int n1), .val (.int n2), .val (.ref b16), .val (.ref b20), .unset, .unset, .unset, .unset] [(.ref b20), (.ref b16)]))
          obtain ⟨cq28, kq28, q28a, q28b, q28c⟩ := isOf hZ e22' (((A16.keep K18).ext E20).keep K22)
          obtain ⟨_, _, ⟨T28, L28, k28, n28⟩, -, X28, ⟨Lc28, hQ28, l28, y28, z28⟩, st28⟩ := X22.virtualBack hx (y := (⟨"com/example/ballast_ledger/ballastledger/CreditRating", "isBelow", "(Lcom/example/ballast_ledger/ballastledger/CreditRating;)Z"⟩ : MethodName)) (z := (⟨"com/example/ballast_ledger/ballastledger/CreditRating", "isBelow", "(Lcom/example/ballast_ledger/ballastledger/CreditRating;)Z"⟩ : MethodName)) hown (mvT hZ (hw _ (List.mem_of_getElem? (i := 36) rfl))) (mvT hZ (hw _ (List.mem_of_getElem? (i := 37) rfl))) (notFace_of_selects (args := #[]) (mvT hZ (hw _ (List.mem_of_getElem? (i := 39) rfl)))) (mvT hZ (hw _ (List.mem_of_getElem? (i := 39) rfl))) (mvT hZ (hw _ (List.mem_of_getElem? (i := 38) rfl))) (by decide) (backOf (W := 0) (rm5 l Z a0 hw [] b16 b20 n1 n2 (0 : Int32) h22 n0 zs23 ((F18.ext E20).keep K22 (ninS ne_b16_b20 nin0)) F22 ⟨fun q => absurd q h21, fun _ => rfl⟩) hZ (hw _ (List.mem_of_getElem? (i := 40) rfl)) (hw _ (List.mem_of_getElem? (i := 6) rfl)) (by decide) (by decide)) q28a q28c (g := (mkF m 134 #[.val (.int p1), .val (.int p2), .val (.int p3), .val (.int p4), .val (.int (1 : Int32)), .val (.int (1 : Int32)), .val (.ref sp), .val (.ref sp), .val (.int (22 : Int32)), .val (.int (22 : Int32)), .val (.int n1), .val (.int n2), .val (.ref b16), .val (.ref b20), .unset, .unset, .unset, .unset] [(.ref b20), (.ref b16)])) rfl (by rw [hml]; rfl) (Steps.refl _) (argsL := [(.ref b20)]) (rest := []) (lenOf own_pd3 rfl) rfl (by show 2 * 0 + _ ≤ _; exact Nat.le_of_eq rfl) (hb hby at_134) (fun _ _ => ⟨rfl, e22', (by decide : 2 + 0 ≤ _), (by decide : 4 + 0 ≤ _)⟩)
          dsimp only [Pt.U, Pt.locs, Pt.cells, Pt.slots] at X28 l28 y28 z28 st28 hQ28
          subst l28 y28 z28
          obtain ⟨rfl, N28q, e28⟩ := hQ28
          have N28 := Fr.app N22 N28q
          refine own_go ?_ (fun tq kt => st28.trans kt)
          show own_Fin _ _ _ _ (T28.setTop (mkF m 137 #[.val (.int p1), .val (.int p2), .val (.int p3), .val (.int p4), .val (.int (1 : Int32)), .val (.int (1 : Int32)), .val (.ref sp), .val (.ref sp), .val (.int (22 : Int32)), .val (.int (22 : Int32)), .val (.int n1), .val (.int n2), .val (.ref b16), .val (.ref b20), .unset, .unset, .unset, .unset] [(.int (0 : Int32))]))
          refine own_go ?_ (fun tq kt => XS.istore X28.here hx rfl (hb hby at_137) rfl (l' := #[.val (.int p1), .val (.int p2), .val (.int p3), .val (.int p4), .val (.int (1 : Int32)), .val (.int (1 : Int32)), .val (.ref sp), .val (.ref sp), .val (.int (22 : Int32)), .val (.int (22 : Int32)), .val (.int n1), .val (.int n2), .val (.ref b16), .val (.ref b20), .val (.int (0 : Int32)), .unset, .unset, .unset]) rfl kt)
          show own_Fin _ _ _ _ (T28.setTop (mkF m 139 #[.val (.int p1), .val (.int p2), .val (.int p3), .val (.int p4), .val (.int (1 : Int32)), .val (.int (1 : Int32)), .val (.ref sp), .val (.ref sp), .val (.int (22 : Int32)), .val (.int (22 : Int32)), .val (.int n1), .val (.int n2), .val (.ref b16), .val (.ref b20), .val (.int (0 : Int32)), .unset, .unset, .unset] []))
          refine own_go ?_ (fun tq kt => XS.aload X28.here hx rfl (hb hby at_139) rfl rfl kt)
          show own_Fin _ _ _ _ (T28.setTop (mkF m 141 #[.val (.int p1), .val (.int p2), .val (.int p3), .val (.int p4), .val (.int (1 : Int32)), .val (.int (1 : Int32)), .val (.ref sp), .val (.ref sp), .val (.int (22 : Int32)), .val (.int (22 : Int32)), .val (.int n1), .val (.int n2), .val (.ref b16), .val (.ref b20), .val (.int (0 : Int32)), .unset, .unset, .unset] [(.ref b20)]))
          refine own_go ?_ (fun tq kt => XS.aload X28.here hx rfl (hb hby at_141) rfl rfl kt)
          show own_Fin _ _ _ _ (T28.setTop (mkF m 143 #[.val (.int p1), .val (.int p2), .val (.int p3), .val (.int p4), .val (.int (1 : Int32)), .val (.int (1 : Int32)), .val (.ref sp), .val (.ref sp), .val (.int (22 : Int32)), .val (.int (22 : Int32)), .val (.int n1), .val (.int n2), .val (.ref b16), .val (.ref b20), .val (.int (0 : Int32)), .unset, .unset, .unset] [(.ref b16), (.ref b20)]))
          obtain ⟨cq29, kq29, q29a, q29b, q29c⟩ := isOf hZ e28 (A20.keep K22)
          obtain ⟨_, _, ⟨T29, L29, k29, n29⟩, -, X29, ⟨Lc29, hQ29, l29, y29, z29⟩, st29⟩ := X28.virtualBack hx (y := (⟨"com/example/ballast_ledger/ballastledger/CreditRating", "isBelow", "(Lcom/example/ballast_ledger/ballastledger/CreditRating;)Z"⟩ : MethodName)) (z := (⟨"com/example/ballast_ledger/ballastledger/CreditRating", "isBelow", "(Lcom/example/ballast_ledger/ballastledger/CreditRating;)Z"⟩ : MethodName)) hown (mvT hZ (hw _ (List.mem_of_getElem? (i := 36) rfl))) (mvT hZ (hw _ (List.mem_of_getElem? (i := 37) rfl))) (notFace_of_selects (args := #[]) (mvT hZ (hw _ (List.mem_of_getElem? (i := 39) rfl)))) (mvT hZ (hw _ (List.mem_of_getElem? (i := 39) rfl))) (mvT hZ (hw _ (List.mem_of_getElem? (i := 38) rfl))) (by decide) (backOf (W := 0) (rm5 l Z a0 hw [] b20 b16 n2 n1 (0 : Int32) h22 n0 zs23 F22 ((F18.ext E20).keep K22 (ninS ne_b16_b20 nin0)) ⟨fun q => absurd q h12, fun _ => rfl⟩) hZ (hw _ (List.mem_of_getElem? (i := 40) rfl)) (hw _ (List.mem_of_getElem? (i := 6) rfl)) (by decide) (by decide)) q29a q29c (g := (mkF m 143 #[.val (.int p1), .val (.int p2), .val (.int p3), .val (.int p4), .val (.int (1 : Int32)), .val (.int (1 : Int32)), .val (.ref sp), .val (.ref sp), .val (.int (22 : Int32)), .val (.int (22 : Int32)), .val (.int n1), .val (.int n2), .val (.ref b16), .val (.ref b20), .val (.int (0 : Int32)), .unset, .unset, .unset] [(.ref b16), (.ref b20)])) rfl (by rw [hml]; rfl) (Steps.refl _) (argsL := [(.ref b16)]) (rest := []) (lenOf own_pd3 rfl) rfl (by show 2 * 0 + _ ≤ _; exact Nat.le_of_eq rfl) (hb hby at_143) (fun _ _ => ⟨rfl, e28, (by decide : 2 + 0 ≤ _), (by decide : 4 + 0 ≤ _)⟩)
          dsimp only [Pt.U, Pt.locs, Pt.cells, Pt.slots] at X29 l29 y29 z29 st29 hQ29
          subst l29 y29 z29
          obtain ⟨rfl, N29q, e29⟩ := hQ29
          have N29 := Fr.app N28 N29q
          refine own_go ?_ (fun tq kt => st29.trans kt)
          show own_Fin _ _ _ _ (T29.setTop (mkF m 146 #[.val (.int p1), .val (.int p2), .val (.int p3), .val (.int p4), .val (.int (1 : Int32)), .val (.int (1 : Int32)), .val (.ref sp), .val (.ref sp), .val (.int (22 : Int32)), .val (.int (22 : Int32)), .val (.int n1), .val (.int n2), .val (.ref b16), .val (.ref b20), .val (.int (0 : Int32)), .unset, .unset, .unset] [(.int (0 : Int32))]))
          refine own_go ?_ (fun tq kt => XS.istore X29.here hx rfl (hb hby at_146) rfl (l' := #[.val (.int p1), .val (.int p2), .val (.int p3), .val (.int p4), .val (.int (1 : Int32)), .val (.int (1 : Int32)), .val (.ref sp), .val (.ref sp), .val (.int (22 : Int32)), .val (.int (22 : Int32)), .val (.int n1), .val (.int n2), .val (.ref b16), .val (.ref b20), .val (.int (0 : Int32)), .val (.int (0 : Int32)), .unset, .unset]) rfl kt)
          show own_Fin _ _ _ _ (T29.setTop (mkF m 148 #[.val (.int p1), .val (.int p2), .val (.int p3), .val (.int p4), .val (.int (1 : Int32)), .val (.int (1 : Int32)), .val (.ref sp), .val (.ref sp), .val (.int (22 : Int32)), .val (.int (22 : Int32)), .val (.int n1), .val (.int n2), .val (.ref b16), .val (.ref b20), .val (.int (0 : Int32)), .val (.int (0 : Int32)), .unset, .unset] []))
          refine own_go ?_ (fun tq kt => XS.iload X29.here hx rfl (hb hby at_148) rfl kt)
          show own_Fin _ _ _ _ (T29.setTop (mkF m 150 #[.val (.int p1), .val (.int p2), .val (.int p3), .val (.int p4), .val (.int (1 : Int32)), .val (.int (1 : Int32)), .val (.ref sp), .val (.ref sp), .val (.int (22 : Int32)), .val (.int (22 : Int32)), .val (.int n1), .val (.int n2), .val (.ref b16), .val (.ref b20), .val (.int (0 : Int32)), .val (.int (0 : Int32)), .unset, .unset] [(.int n1)]))
          refine own_go ?_ (fun tq kt => XS.iload X29.here hx rfl (hb hby at_150) rfl kt)
          show own_Fin _ _ _ _ (T29.setTop (mkF m 152 #[.val (.int p1), .val (.int p2), .val (.int p3), .val (.int p4), .val (.int (1 : Int32)), .val (.int (1 : Int32)), .val (.ref sp), .val (.ref sp), .val (.int (22 : Int32)), .val (.int (22 : Int32)), .val (.int n1), .val (.int n2), .val (.ref b16), .val (.ref b20), .val (.int (0 : Int32)), .val (.int (0 : Int32)), .unset, .unset] [(.int n2), (.int n1)]))
          refine own_go ?_ (fun tq kt => XS.isub X29.here hx rfl (hb hby at_152) rfl kt)
          show own_Fin _ _ _ _ (T29.setTop (mkF m 153 #[.val (.int p1), .val (.int p2), .val (.int p3), .val (.int p4), .val (.int (1 : Int32)), .val (.int (1 : Int32)), .val (.ref sp), .val (.ref sp), .val (.int (22 : Int32)), .val (.int (22 : Int32)), .val (.int n1), .val (.int n2), .val (.ref b16), .val (.ref b20), .val (.int (0 : Int32)), .val (.int (0 : Int32)), .unset, .unset] [(.int (n1 - n2))]))
          refine own_go ?_ (fun tq kt => XS.iconst X29.here hx rfl (hb hby at_153) kt)
          show own_Fin _ _ _ _ (T29.setTop (mkF m 154 #[.val (.int p1), .val (.int p2), .val (.int p3), .val (.int p4), .val (.int (1 : Int32)), .val (.int (1 : Int32)), .val (.ref sp), .val (.ref sp), .val (.int (22 : Int32)), .val (.int (22 : Int32)), .val (.int n1), .val (.int n2), .val (.ref b16), .val (.ref b20), .val (.int (0 : Int32)), .val (.int (0 : Int32)), .unset, .unset] [(.int (1 : Int32)), (.int (n1 - n2))]))
          refine own_go ?_ (fun tq kt => XS.icmpYes X29.here hx rfl (pc0 := 154) (pc' := 161) rfl (hb hby at_154) rfl (tlt ((hs.2 h21) : (n1 - n2) < (1 : Int32))).1 (by decide) (by decide) kt)
          show own_Fin _ _ _ _ (T29.setTop (mkF m 161 #[.val (.int p1), .val (.int p2), .val (.int p3), .val (.int p4), .val (.int (1 : Int32)), .val (.int (1 : Int32)), .val (.ref sp), .val (.ref sp), .val (.int (22 : Int32)), .val (.int (22 : Int32)), .val (.int n1), .val (.int n2), .val (.ref b16), .val (.ref b20), .val (.int (0 : Int32)), .val (.int (0 : Int32)), .unset, .unset] []))
          refine own_go ?_ (fun tq kt => XS.iconst X29.here hx rfl (hb hby at_161) kt)
          show own_Fin _ _ _ _ (T29.setTop (mkF m 162 #[.val (.int p1), .val (.int p2), .val (.int p3), .val (.int p4), .val (.int (1 : Int32)), .val (.int (1 : Int32)), .val (.ref sp), .val (.ref sp), .val (.int (22 : Int32)), .val (.int (22 : Int32)), .val (.int n1), .val (.int n2), .val (.ref b16), .val (.ref b20), .val (.int (0 : Int32)), .val (.int (0 : Int32)), .unset, .unset] [(.int (0 : Int32))]))
          refine own_go ?_ (fun tq kt => XS.istore X29.here hx rfl (hb hby at_162) rfl (l' := #[.val (.int p1), .val (.int p2), .val (.int p3), .val (.int p4), .val (.int (1 : Int32)), .val (.int (1 : Int32)), .val (.ref sp), .val (.ref sp), .val (.int (22 : Int32)), .val (.int (22 : Int32)), .val (.int n1), .val (.int n2), .val (.ref b16), .val (.ref b20), .val (.int (0 : Int32)), .val (.int (0 : Int32)), .val (.int (0 : Int32)), .unset]) rfl kt)
          show own_Fin _ _ _ _ (T29.setTop (mkF m 164 #[.val (.int p1), .val (.int p2), .val (.int p3), .val (.int p4), .val (.int (1 : Int32)), .val (.int (1 : Int32)), .val (.ref sp), .val (.ref sp), .val (.int (22 : Int32)), .val (.int (22 : Int32)), .val (.int n1), .val (.int n2), .val (.ref b16), .val (.ref b20), .val (.int (0 : Int32)), .val (.int (0 : Int32)), .val (.int (0 : Int32)), .unset] []))
          refine own_go ?_ (fun tq kt => XS.iload X29.here hx rfl (hb hby at_164) rfl kt)
          show own_Fin _ _ _ _ (T29.setTop (mkF m 166 #[.val (.int p1), .val (.int p2), .val (.int p3), .val (.int p4), .val (.int (1 : Int32)), .val (.int (1 : Int32)), .val (.ref sp), .val (.ref sp), .val (.int (22 : Int32)), .val (.int (22 : Int32)), .val (.int n1), .val (.int n2), .val (.ref b16), .val (.ref b20), .val (.int (0 : Int32)), .val (.int (0 : Int32)), .val (.int (0 : Int32)), .unset] [(.int n2)]))
          refine own_go ?_ (fun tq kt => XS.iload X29.here hx rfl (hb hby at_166) rfl kt)
          show own_Fin _ _ _ _ (T29.setTop (mkF m 168 #[.val (.int p1), .val (.int p2), .val (.int p3), .val (.int p4), .val (.int (1 : Int32)), .val (.int (1 : Int32)), .val (.ref sp), .val (.ref sp), .val (.int (22 : Int32)), .val (.int (22 : Int32)), .val (.int n1), .val (.int n2), .val (.ref b16), .val (.ref b20), .val (.int (0 : Int32)), .val (.int (0 : Int32)), .val (.int (0 : Int32)), .unset] [(.int n1), (.int n2)]))
          refine own_go ?_ (fun tq kt => XS.isub X29.here hx rfl (hb hby at_168) rfl kt)
          show own_Fin _ _ _ _ (T29.setTop (mkF m 169 #[.val (.int p1), .val (.int p2), .val (.int p3), .val (.int p4), .val (.int (1 : Int32)), .val (.int (1 : Int32)), .val (.ref sp), .val (.ref sp), .val (.int (22 : Int32)), .val (.int (22 : Int32)), .val (.int n1), .val (.int n2), .val (.ref b16), .val (.ref b20), .val (.int (0 : Int32)), .val (.int (0 : Int32)), .val (.int (0 : Int32)), .unset] [(.int (n2 - n1))]))
          refine own_go ?_ (fun tq kt => XS.iconst X29.here hx rfl (hb hby at_169) kt)
          show own_Fin _ _ _ _ (T29.setTop (mkF m 170 #[.val (.int p1), .val (.int p2), .val (.int p3), .val (.int p4), .val (.int (1 : Int32)), .val (.int (1 : Int32)), .val (.ref sp), .val (.ref sp), .val (.int (22 : Int32)), .val (.int (22 : Int32)), .val (.int n1), .val (.int n2), .val (.ref b16), .val (.ref b20), .val (.int (0 : Int32)), .val (.int (0 : Int32)), .val (.int (0 : Int32)), .unset] [(.int (1 : Int32)), (.int (n2 - n1))]))
          refine own_go ?_ (fun tq kt => XS.icmpYes X29.here hx rfl (pc0 := 170) (pc' := 177) rfl (hb hby at_170) rfl (tlt ((hs'.2 h12) : (n2 - n1) < (1 : Int32))).1 (by decide) (by decide) kt)
          show own_Fin _ _ _ _ (T29.setTop (mkF m 177 #[.val (.int p1), .val (.int p2), .val (.int p3), .val (.int p4), .val (.int (1 : Int32)), .val (.int (1 : Int32)), .val (.ref sp), .val (.ref sp), .val (.int (22 : Int32)), .val (.int (22 : Int32)), .val (.int n1), .val (.int n2), .val (.ref b16), .val (.ref b20), .val (.int (0 : Int32)), .val (.int (0 : Int32)), .val (.int (0 : Int32)), .unset] []))
          refine own_go ?_ (fun tq kt => XS.iconst X29.here hx rfl (hb hby at_177) kt)
          show own_Fin _ _ _ _ (T29.setTop (mkF m 178 #[.val (.int p1), .val (.int p2), .val (.int p3), .val (.int p4), .val (.int (1 : Int32)), .val (.int (1 : Int32)), .val (.ref sp), .val (.ref sp), .val (.int (22 : Int32)), .val (.int (22 : Int32)), .val (.int n1), .val (.int n2), .val (.ref b16), .val (.ref b20), .val (.int (0 : Int32)), .val (.int (0 : Int32)), .val (.int (0 : Int32)), .unset] [(.int (0 : Int32))]))
          refine own_go ?_ (fun tq kt => XS.istore X29.here hx rfl (hb hby at_178) rfl (l' := #[.val (.int p1), .val (.int p2), .val (.int p3), .val (.int p4), .val (.int (1 : Int32)), .val (.int (1 : Int32)), .val (.ref sp), .val (.ref sp), .val (.int (22 : Int32)), .val (.int (22 : Int32)), .val (.int n1), .val (.int n2), .val (.ref b16), .val (.ref b20), .val (.int (0 : Int32)), .val (.int (0 : Int32)), .val (.int (0 : Int32)), .val (.int (0 : Int32))]) rfl kt)
          show own_Fin _ _ _ _ (T29.setTop (mkF m 180 #[.val (.int p1), .val (.int p2), .val (.int p3), .val (.int p4), .val (.int (1 : Int32)), .val (.int (1 : Int32)), .val (.ref sp), .val (.ref sp), .val (.int (22 : Int32)), .val (.int (22 : Int32)), .val (.int n1), .val (.int n2), .val (.ref b16), .val (.ref b20), .val (.int (0 : Int32)), .val (.int (0 : Int32)), .val (.int (0 : Int32)), .val (.int (0 : Int32))] []))
          refine own_go ?_ (fun tq kt => XS.iload X29.here hx rfl (hb hby at_180) rfl kt)
          show own_Fin _ _ _ _ (T29.setTop (mkF m 182 #[.val (.int p1), .val (.int p2), .val (.int p3), .val (.int p4), .val (.int (1 : Int32)), .val (.int (1 : Int32)), .val (.ref sp), .val (.ref sp), .val (.int (22 : Int32)), .val (.int (22 : Int32)), .val (.int n1), .val (.int n2), .val (.ref b16), .val (.ref b20), .val (.int (0 : Int32)), .val (.int (0 : Int32)), .val (.int (0 : Int32)), .val (.int (0 : Int32))] [(.int (0 : Int32))]))
          refine own_go ?_ (fun tq kt => XS.iload X29.here hx rfl (hb hby at_182) rfl kt)
          show own_Fin _ _ _ _ (T29.setTop (mkF m 184 #[.val (.int p1), .val (.int p2), .val (.int p3), .val (.int p4), .val (.int (1 : Int32)), .val (.int (1 : Int32)), .val (.ref sp), .val (.ref sp), .val (.int (22 : Int32)), .val (.int (22 : Int32)), .val (.int n1), .val (.int n2), .val (.ref b16), .val (.ref b20), .val (.int (0 : Int32)), .val (.int (0 : Int32)), .val (.int (0 : Int32)), .val (.int (0 : Int32))] [(.int (0 : Int32)), (.int (0 : Int32))]))
          refine own_go ?_ (fun tq kt => XS.icmpNo X29.here hx rfl (hb hby at_184) rfl (teq (rfl : (0 : Int32) = (0 : Int32))).2 kt)
          show own_Fin _ _ _ _ (T29.setTop (mkF m 187 #[.val (.int p1), .val (.int p2), .val (.int p3), .val (.int p4), .val (.int (1 : Int32)), .val (.int (1 : Int32)), .val (.ref sp), .val (.ref sp), .val (.int (22 : Int32)), .val (.int (22 : Int32)), .val (.int n1), .val (.int n2), .val (.ref b16), .val (.ref b20), .val (.int (0 : Int32)), .val (.int (0 : Int32)), .val (.int (0 : Int32)), .val (.int (0 : Int32))] []))
          refine own_go ?_ (fun tq kt => XS.iload X29.here hx rfl (hb hby at_187) rfl kt)
          show own_Fin _ _ _ _ (T29.setTop (mkF m 189 #[.val (.int p1), .val (.int p2), .val (.int p3), .val (.int p4), .val (.int (1 : Int32)), .val (.int (1 : Int32)), .val (.ref sp), .val (.ref sp), .val (.int (22 : Int32)), .val (.int (22 : Int32)), .val (.int n1), .val (.int n2), .val (.ref b16), .val (.ref b20), .val (.int (0 : Int32)), .val (.int (0 : Int32)), .val (.int (0 : Int32)), .val (.int (0 : Int32))] [(.int (0 : Int32))]))
          refine own_go ?_ (fun tq kt => XS.iload X29.here hx rfl (hb hby at_189) rfl kt)
          show own_Fin _ _ _ _ (T29.setTop (mkF m 191 #[.val (.int p1), .val (.int p2), .val (.int p3), .val (.int p4), .val (.int (1 : Int32)), .val (.int (1 : Int32)), .val (.ref sp), .val (.ref sp), .val (.int (22 : Int32)), .val (.int (22 : Int32)), .val (.int n1), .val (.int n2), .val (.ref b16), .val (.ref b20), .val (.int (0 : Int32)), .val (.int (0 : Int32)), .val (.int (0 : Int32)), .val (.int (0 : Int32))] [(.int (0 : Int32)), (.int (0 : Int32))]))
          refine own_go ?_ (fun tq kt => XS.icmpNo X29.here hx rfl (hb hby at_191) rfl (teq (rfl : (0 : Int32) = (0 : Int32))).2 kt)
          show own_Fin _ _ _ _ (T29.setTop (mkF m 194 #[.val (.int p1), .val (.int p2), .val (.int p3), .val (.int p4), .val (.int (1 : Int32)), .val (.int (1 : Int32)), .val (.ref sp), .val (.ref sp), .val (.int (22 : Int32)), .val (.int (22 : Int32)), .val (.int n1), .val (.int n2), .val (.ref b16), .val (.ref b20), .val (.int (0 : Int32)), .val (.int (0 : Int32)), .val (.int (0 : Int32)), .val (.int (0 : Int32))] []))
          refine own_go ?_ (fun tq kt => XS.iconst X29.here hx rfl (hb hby at_194) kt)
          show own_Fin _ _ _ _ (T29.setTop (mkF m 195 #[.val (.int p1), .val (.int p2), .val (.int p3), .val (.int p4), .val (.int (1 : Int32)), .val (.int (1 : Int32)), .val (.ref sp), .val (.ref sp), .val (.int (22 : Int32)), .val (.int (22 : Int32)), .val (.int n1), .val (.int n2), .val (.ref b16), .val (.ref b20), .val (.int (0 : Int32)), .val (.int (0 : Int32)), .val (.int (0 : Int32)), .val (.int (0 : Int32))] [(.int (1 : Int32))]))
          refine own_go ?_ (fun tq kt => XS.goto X29.here hx rfl (pc0 := 195) (pc' := 199) rfl (hb hby at_195) (by decide) (by decide) kt)
          show own_Fin _ _ _ _ (T29.setTop (mkF m 199 #[.val (.int p1), .val (.int p2), .val (.int p3), .val (.int p4), .val (.int (1 : Int32)), .val (.int (1 : Int32)), .val (.ref sp), .val (.ref sp), .val (.int (22 : Int32)), .val (.int (22 : Int32)), .val (.int n1), .val (.int n2), .val (.ref b16), .val (.ref b20), .val (.int (0 : Int32)), .val (.int (0 : Int32)), .val (.int (0 : Int32)), .val (.int (0 : Int32))] [(.int (1 : Int32))]))
          refine own_retN X29 hx (t := .boolean) Bd.returns (by simp) (hb hby at_199) hlk ?_ (by decide) (by decide)
          exact ⟨rfl, N29⟩
    · refine own_go ?_ (fun tq kt => XS.ifYes X0.here hx rfl (pc0 := 16) (pc' := 23) rfl (hb hby at_16) rfl ((if0 _ _).trans (feq (hc16_13 : ¬ ((p3 &&& (1 : Int32)) = (0 : Int32)))).2) (by decide) (by decide) kt)
      show own_Fin _ _ _ _ (s₁.setTop (mkF m 23 #[.val (.int p1), .val (.int p2), .val (.int p3), .val (.int p4), .val (.int (1 : Int32)), .unset, .unset, .unset, .unset, .unset, .unset, .unset, .unset, .unset, .unset, .unset, .unset, .unset] []))
      refine own_go ?_ (fun tq kt => XS.iconst X0.here hx rfl (hb hby at_23) kt)
      show own_Fin _ _ _ _ (s₁.setTop (mkF m 24 #[.val (.int p1), .val (.int p2), .val (.int p3), .val (.int p4), .val (.int (1 : Int32)), .unset, .unset, .unset, .unset, .unset, .unset, .unset, .unset, .unset, .unset, .unset, .unset, .unset] [(.int (0 : Int32))]))
      refine own_go ?_ (fun tq kt => XS.istore X0.here hx rfl (hb hby at_24) rfl (l' := #[.val (.int p1), .val (.int p2), .val (.int p3), .val (.int p4), .val (.int (1 : Int32)), .val (.int (0 : Int32)), .unset, .unset, .unset, .unset, .unset, .unset, .unset, .unset, .unset, .unset, .unset, .unset]) rfl kt)
      show own_Fin _ _ _ _ (s₁.setTop (mkF m 26 #[.val (.int p1), .val (.int p2), .val (.int p3), .val (.int p4), .val (.int (1 : Int32)), .val (.int (0 : Int32)), .unset, .unset, .unset, .unset, .unset, .unset, .unset, .unset, .unset, .unset, .unset, .unset] []))
      refine own_go ?_ (fun tq kt => XS.iload X0.here hx rfl (hb hby at_26) rfl kt)
      show own_Fin _ _ _ _ (s₁.setTop (mkF m 28 #[.val (.int p1), .val (.int p2), .val (.int p3), .val (.int p4), .val (.int (1 : Int32)), .val (.int (0 : Int32)), .unset, .unset, .unset, .unset, .unset, .unset, .unset, .unset, .unset, .unset, .unset, .unset] [(.int (1 : Int32))]))
      refine own_go ?_ (fun tq kt => XS.ifNo X0.here hx rfl (hb hby at_28) rfl ((if0 _ _).trans (feq ((by decide) : ¬ ((1 : Int32) = (0 : Int32)))).1) kt)
      show own_Fin _ _ _ _ (s₁.setTop (mkF m 31 #[.val (.int p1), .val (.int p2), .val (.int p3), .val (.int p4), .val (.int (1 : Int32)), .val (.int (0 : Int32)), .unset, .unset, .unset, .unset, .unset, .unset, .unset, .unset, .unset, .unset, .unset, .unset] []))
      obtain ⟨T30, X30, e30, st30⟩ := getS2 X0 hx hZ hown (host := "") (Or.inl (hw _ (List.mem_of_getElem? (i := 0) rfl))) Via.refl e0 (sSt.ext O0.2) (g := (mkF m 31 #[.val (.int p1), .val (.int p2), .val (.int p3), .val (.int p4), .val (.int (1 : Int32)), .val (.int (0 : Int32)), .unset, .unset, .unset, .unset, .unset, .unset, .unset, .unset, .unset, .unset, .unset, .unset] [])) rfl (hb hby at_31)
      refine own_go ?_ (fun tq kt => st30 _ kt)
      show own_Fin _ _ _ _ (T30.setTop (mkF m 34 #[.val (.int p1), .val (.int p2), .val (.int p3), .val (.int p4), .val (.int (1 : Int32)), .val (.int (0 : Int32)), .unset, .unset, .unset, .unset, .unset, .unset, .unset, .unset, .unset, .unset, .unset, .unset] [(.ref sp)]))
      refine own_go ?_ (fun tq kt => XS.goto X30.here hx rfl (pc0 := 34) (pc' := 40) rfl (hb hby at_34) (by decide) (by decide) kt)
      show own_Fin _ _ _ _ (T30.setTop (mkF m 40 #[.val (.int p1), .val (.int p2), .val (.int p3), .val (.int p4), .val (.int (1 : Int32)), .val (.int (0 : Int32)), .unset, .unset, .unset, .unset, .unset, .unset, .unset, .unset, .unset, .unset, .unset, .unset] [(.ref sp)]))
      refine own_go ?_ (fun tq kt => XS.astore X30.here hx rfl (hb hby at_40) rfl rfl (l' := #[.val (.int p1), .val (.int p2), .val (.int p3), .val (.int p4), .val (.int (1 : Int32)), .val (.int (0 : Int32)), .val (.ref sp), .unset, .unset, .unset, .unset, .unset, .unset, .unset, .unset, .unset, .unset, .unset]) rfl kt)
      show own_Fin _ _ _ _ (T30.setTop (mkF m 42 #[.val (.int p1), .val (.int p2), .val (.int p3), .val (.int p4), .val (.int (1 : Int32)), .val (.int (0 : Int32)), .val (.ref sp), .unset, .unset, .unset, .unset, .unset, .unset, .unset, .unset, .unset, .unset, .unset] []))
      refine own_go ?_ (fun tq kt => XS.iload X30.here hx rfl (hb hby at_42) rfl kt)
      show own_Fin _ _ _ _ (T30.setTop (mkF m 44 #[.val (.int p1), .val (.int p2), .val (.int p3), .val (.int p4), .val (.int (1 : Int32)), .val (.int (0 : Int32)), .val (.ref sp), .unset, .unset, .unset, .unset, .unset, .unset, .unset, .unset, .unset, .unset, .unset] [(.int (0 : Int32))]))
      refine own_go ?_ (fun tq kt => XS.ifYes X30.here hx rfl (pc0 := 44) (pc' := 53) rfl (hb hby at_44) rfl ((if0 _ _).trans (teq (rfl : (0 : Int32) = (0 : Int32))).1) (by decide) (by decide) kt)
      show own_Fin _ _ _ _ (T30.setTop (mkF m 53 #[.val (.int p1), .val (.int p2), .val (.int p3), .val (.int p4), .val (.int (1 : Int32)), .val (.int (0 : Int32)), .val (.ref sp), .unset, .unset, .unset, .unset, .unset, .unset, .unset, .unset, .unset, .unset, .unset] []))
      obtain ⟨T31, X31, e31, st31⟩ := getS2 X30 hx hZ hown (host := "") (Or.inl (hw _ (List.mem_of_getElem? (i := 41) rfl))) Via.refl e30 (mSt.ext O0.2) (g := (mkF m 53 #[.val (.int p1), .val (.int p2), .val (.int p3), .val (.int p4), .val (.int (1 : Int32)), .val (.int (0 : Int32)), .val (.ref sp), .unset, .unset, .unset, .unset, .unset, .unset, .unset, .unset, .unset, .unset, .unset] [])) rfl (hb hby at_53)
      refine own_go ?_ (fun tq kt => st31 _ kt)
      show own_Fin _ _ _ _ (T31.setTop (mkF m 56 #[.val (.int p1), .val (.int p2), .val (.int p3), .val (.int p4), .val (.int (1 : Int32)), .val (.int (0 : Int32)), .val (.ref sp), .unset, .unset, .unset, .unset, .unset, .unset, .unset, .unset, .unset, .unset, .unset] [(.ref mo)]))
      refine own_go ?_ (fun tq kt => XS.astore X31.here hx rfl (hb hby at_56) rfl rfl (l' := #[.val (.int p1), .val (.int p2), .val (.int p3), .val (.int p4), .val (.int (1 : Int32)), .val (.int (0 : Int32)), .val (.ref sp), .val (.ref mo), .unset, .unset, .unset, .unset, .unset, .unset, .unset, .unset, .unset, .unset]) rfl kt)
      show own_Fin _ _ _ _ (T31.setTop (mkF m 58 #[.val (.int p1), .val (.int p2), .val (.int p3), .val (.int p4), .val (.int (1 : Int32)), .val (.int (0 : Int32)), .val (.ref sp), .val (.ref mo), .unset, .unset, .unset, .unset, .unset, .unset, .unset, .unset, .unset, .unset] []))
      refine own_go ?_ (fun tq kt => XS.iload X31.here hx rfl (hb hby at_58) rfl kt)
      show own_Fin _ _ _ _ (T31.setTop (mkF m 60 #[.val (.int p1), .val (.int p2), .val (.int p3), .val (.int p4), .val (.int (1 : Int32)), .val (.int (0 : Int32)), .val (.ref sp), .val (.ref mo), .unset, .unset, .unset, .unset, .unset, .unset, .unset, .unset, .unset, .unset] [(.int (1 : Int32))]))
      refine own_go ?_ (fun tq kt => XS.ifNo X31.here hx rfl (hb hby at_60) rfl ((if0 _ _).trans (feq ((by decide) : ¬ ((1 : Int32) = (0 : Int32)))).1) kt)
      show own_Fin _ _ _ _ (T31.setTop (mkF m 63 #[.val (.int p1), .val (.int p2), .val (.int p3), .val (.int p4), .val (.int (1 : Int32)), .val (.int (0 : Int32)), .val (.ref sp), .val (.ref mo), .unset, .unset, .unset, .unset, .unset, .unset, .unset, .unset, .unset, .unset] []))
      refine own_go ?_ (fun tq kt => XS.bipush X31.here hx rfl (hb hby at_63) kt)
      show own_Fin _ _ _ _ (T31.setTop (mkF m 65 #[.val (.int p1), .val (.int p2), .val (.int p3), .val (.int p4), .val (.int (1 : Int32)), .val (.int (0 : Int32)), .val (.ref sp), .val (.ref mo), .unset, .unset, .unset, .unset, .unset, .unset, .unset, .unset, .unset, .unset] [(.int (22 : Int32))]))
      refine own_go ?_ (fun tq kt => XS.goto X31.here hx rfl (pc0 := 65) (pc' := 70) rfl (hb hby at_65) (by decide) (by decide) kt)
      show own_Fin _ _ _ _ (T31.setTop (mkF m 70 #[.val (.int p1), .val (.int p2), .val (.int p3), .val (.int p4), .val (.int (1 : Int32)), .val (.int (0 : Int32)), .val (.ref sp), .val (.ref mo), .unset, .unset, .unset, .unset, .unset, .unset, .unset, .unset, .unset, .unset] [(.int (22 : Int32))]))
      refine own_go ?_ (fun tq kt => XS.istore X31.here hx rfl (hb hby at_70) rfl (l' := #[.val (.int p1), .val (.int p2), .val (.int p3), .val (.int p4), .val (.int (1 : Int32)), .val (.int (0 : Int32)), .val (.ref sp), .val (.ref mo), .val (.int (22 : Int32)), .unset, .unset, .unset, .unset, .unset, .unset, .unset, .unset, .unset]) rfl kt)
      show own_Fin _ _ _ _ (T31.setTop (mkF m 72 #[.val (.int p1), .val (.int p2), .val (.int p3), .val (.int p4), .val (.int (1 : Int32)), .val (.int (0 : Int32)), .val (.ref sp), .val (.ref mo), .val (.int (22 : Int32)), .unset, .unset, .unset, .unset, .unset, .unset, .unset, .unset, .unset] []))
      refine own_go ?_ (fun tq kt => XS.iload X31.here hx rfl (hb hby at_72) rfl kt)
      show own_Fin _ _ _ _ (T31.setTop (mkF m 74 #[.val (.int p1), .val (.int p2), .val (.int p3), .val (.int p4), .val (.int (1 : Int32)), .val (.int (0 : Int32)), .val (.ref sp), .val (.ref mo), .val (.int (22 : Int32)), .unset, .unset, .unset, .unset, .unset, .unset, .unset, .unset, .unset] [(.int (0 : Int32))]))
      refine own_go ?_ (fun tq kt => XS.ifYes X31.here hx rfl (pc0 := 74) (pc' := 82) rfl (hb hby at_74) rfl ((if0 _ _).trans (teq (rfl : (0 : Int32) = (0 : Int32))).1) (by decide) (by decide) kt)
      show own_Fin _ _ _ _ (T31.setTop (mkF m 82 #[.val (.int p1), .val (.int p2), .val (.int p3), .val (.int p4), .val (.int (1 : Int32)), .val (.int (0 : Int32)), .val (.ref sp), .val (.ref mo), .val (.int (22 : Int32)), .unset, .unset, .unset, .unset, .unset, .unset, .unset, .unset, .unset] []))
      refine own_go ?_ (fun tq kt => XS.bipush X31.here hx rfl (hb hby at_82) kt)
      show own_Fin _ _ _ _ (T31.setTop (mkF m 84 #[.val (.int p1), .val (.int p2), .val (.int p3), .val (.int p4), .val (.int (1 : Int32)), .val (.int (0 : Int32)), .val (.ref sp), .val (.ref mo), .val (.int (22 : Int32)), .unset, .unset, .unset, .unset, .unset, .unset, .unset, .unset, .unset] [(.int (21 : Int32))]))
      refine own_go ?_ (fun tq kt => XS.istore X31.here hx rfl (hb hby at_84) rfl (l' := #[.val (.int p1), .val (.int p2), .val (.int p3), .val (.int p4), .val (.int (1 : Int32)), .val (.int (0 : Int32)), .val (.ref sp), .val (.ref mo), .val (.int (22 : Int32)), .val (.int (21 : Int32)), .unset, .unset, .unset, .unset, .unset, .unset, .unset, .unset]) rfl kt)
      show own_Fin _ _ _ _ (T31.setTop (mkF m 86 #[.val (.int p1), .val (.int p2), .val (.int p3), .val (.int p4), .val (.int (1 : Int32)), .val (.int (0 : Int32)), .val (.ref sp), .val (.ref mo), .val (.int (22 : Int32)), .val (.int (21 : Int32)), .unset, .unset, .unset, .unset, .unset, .unset, .unset, .unset] []))
      refine own_go ?_ (fun tq kt => XS.iloadN X31.here hx rfl (hb hby at_86) rfl kt)
      show own_Fin _ _ _ _ (T31.setTop (mkF m 87 #[.val (.int p1), .val (.int p2), .val (.int p3), .val (.int p4), .val (.int (1 : Int32)), .val (.int (0 : Int32)), .val (.ref sp), .val (.ref mo), .val (.int (22 : Int32)), .val (.int (21 : Int32)), .unset, .unset, .unset, .unset, .unset, .unset, .unset, .unset] [(.int p2)]))
      refine own_go ?_ (fun tq kt => X31.ldcInt hx hown (mvT hZ (hw _ (List.mem_of_getElem? (i := 3) rfl))) (g := (mkF m 87 #[.val (.int p1), .val (.int p2), .val (.int p3), .val (.int p4), .val (.int (1 : Int32)), .val (.int (0 : Int32)), .val (.ref sp), .val (.ref mo), .val (.int (22 : Int32)), .val (.int (21 : Int32)), .unset, .unset, .unset, .unset, .unset, .unset, .unset, .unset] [(.int p2)])) rfl (hb hby at_87) _ kt)
      show own_Fin _ _ _ _ (T31.setTop (mkF m 89 #[.val (.int p1), .val (.int p2), .val (.int p3), .val (.int p4), .val (.int (1 : Int32)), .val (.int (0 : Int32)), .val (.ref sp), .val (.ref mo), .val (.int (22 : Int32)), .val (.int (21 : Int32)), .unset, .unset, .unset, .unset, .unset, .unset, .unset, .unset] [(.int (2147483647 : Int32)), (.int p2)]))
      refine own_go ?_ (fun tq kt => XS.iand X31.here hx rfl (hb hby at_89) rfl kt)
      show own_Fin _ _ _ _ (T31.setTop (mkF m 90 #[.val (.int p1), .val (.int p2), .val (.int p3), .val (.int p4), .val (.int (1 : Int32)), .val (.int (0 : Int32)), .val (.ref sp), .val (.ref mo), .val (.int (22 : Int32)), .val (.int (21 : Int32)), .unset, .unset, .unset, .unset, .unset, .unset, .unset, .unset] [(.int (p2 &&& (2147483647 : Int32)))]))
      refine own_go ?_ (fun tq kt => XS.iload X31.here hx rfl (hb hby at_90) rfl kt)
      show own_Fin _ _ _ _ (T31.setTop (mkF m 92 #[.val (.int p1), .val (.int p2), .val (.int p3), .val (.int p4), .val (.int (1 : Int32)), .val (.int (0 : Int32)), .val (.ref sp), .val (.ref mo), .val (.int (22 : Int32)), .val (.int (21 : Int32)), .unset, .unset, .unset, .unset, .unset, .unset, .unset, .unset] [(.int (22 : Int32)), (.int (p2 &&& (2147483647 : Int32)))]))
      refine own_go ?_ (fun tq kt => iremM X31 hx rfl (hb hby at_92) rfl (by decide) kt)
      show own_Fin _ _ _ _ (T31.setTop (mkF m 93 #[.val (.int p1), .val (.int p2), .val (.int p3), .val (.int p4), .val (.int (1 : Int32)), .val (.int (0 : Int32)), .val (.ref sp), .val (.ref mo), .val (.int (22 : Int32)), .val (.int (21 : Int32)), .unset, .unset, .unset, .unset, .unset, .unset, .unset, .unset] [(.int ((p2 &&& (2147483647 : Int32)) % (22 : Int32)))]))
      refine own_go ?_ (fun tq kt => XS.istore X31.here hx rfl (hb hby at_93) rfl (l' := #[.val (.int p1), .val (.int p2), .val (.int p3), .val (.int p4), .val (.int (1 : Int32)), .val (.int (0 : Int32)), .val (.ref sp), .val (.ref mo), .val (.int (22 : Int32)), .val (.int (21 : Int32)), .val (.int ((p2 &&& (2147483647 : Int32)) % (22 : Int32))), .unset, .unset, .unset, .unset, .unset, .unset, .unset]) rfl kt)
      show own_Fin _ _ _ _ (T31.setTop (mkF m 95 #[.val (.int p1), .val (.int p2), .val (.int p3), .val (.int p4), .val (.int (1 : Int32)), .val (.int (0 : Int32)), .val (.ref sp), .val (.ref mo), .val (.int (22 : Int32)), .val (.int (21 : Int32)), .val (.int ((p2 &&& (2147483647 : Int32)) % (22 : Int32))), .unset, .unset, .unset, .unset, .unset, .unset, .unset] []))
      refine own_go ?_ (fun tq kt => XS.iloadN X31.here hx rfl (hb hby at_95) rfl kt)
      show own_Fin _ _ _ _ (T31.setTop (mkF m 96 #[.val (.int p1), .val (.int p2), .val (.int p3), .val (.int p4), .val (.int (1 : Int32)), .val (.int (0 : Int32)), .val (.ref sp), .val (.ref mo), .val (.int (22 : Int32)), .val (.int (21 : Int32)), .val (.int ((p2 &&& (2147483647 : Int32)) % (22 : Int32))), .unset, .unset, .unset, .unset, .unset, .unset, .unset] [(.int p4)]))
      refine own_go ?_ (fun tq kt => X31.ldcInt hx hown (mvT hZ (hw _ (List.mem_of_getElem? (i := 3) rfl))) (g := (mkF m 96 #[.val (.int p1), .val (.int p2), .val (.int p3), .val (.int p4), .val (.int (1 : Int32)), .val (.int (0 : Int32)), .val (.ref sp), .val (.ref mo), .val (.int (22 : Int32)), .val (.int (21 : Int32)), .val (.int ((p2 &&& (2147483647 : Int32)) % (22 : Int32))), .unset, .unset, .unset, .unset, .unset, .unset, .unset] [(.int p4)])) rfl (hb hby at_96) _ kt)
      show own_Fin _ _ _ _ (T31.setTop (mkF m 98 #[.val (.int p1), .val (.int p2), .val (.int p3), .val (.int p4), .val (.int (1 : Int32)), .val (.int (0 : Int32)), .val (.ref sp), .val (.ref mo), .val (.int (22 : Int32)), .val (.int (21 : Int32)), .val (.int ((p2 &&& (2147483647 : Int32)) % (22 : Int32))), .unset, .unset, .unset, .unset, .unset, .unset, .unset] [(.int (2147483647 : Int32)), (.int p4)]))
      refine own_go ?_ (fun tq kt => XS.iand X31.here hx rfl (hb hby at_98) rfl kt)
      show own_Fin _ _ _ _ (T31.setTop (mkF m 99 #[.val (.int p1), .val (.int p2), .val (.int p3), .val (.int p4), .val (.int (1 : Int32)), .val (.int (0 : Int32)), .val (.ref sp), .val (.ref mo), .val (.int (22 : Int32)), .val (.int (21 : Int32)), .val (.int ((p2 &&& (2147483647 : Int32)) % (22 : Int32))), .unset, .unset, .unset, .unset, .unset, .unset, .unset] [(.int (p4 &&& (2147483647 : Int32)))]))
      refine own_go ?_ (fun tq kt => XS.iload X31.here hx rfl (hb hby at_99) rfl kt)
      show own_Fin _ _ _ _ (T31.setTop (mkF m 101 #[.val (.int p1), .val (.int p2), .val (.int p3), .val (.int p4), .val (.int (1 : Int32)), .val (.int (0 : Int32)), .val (.ref sp), .val (.ref mo), .val (.int (22 : Int32)), .val (.int (21 : Int32)), .val (.int ((p2 &&& (2147483647 : Int32)) % (22 : Int32))), .unset, .unset, .unset, .unset, .unset, .unset, .unset] [(.int (21 : Int32)), (.int (p4 &&& (2147483647 : Int32)))]))
      refine own_go ?_ (fun tq kt => iremM X31 hx rfl (hb hby at_101) rfl (by decide) kt)
      show own_Fin _ _ _ _ (T31.setTop (mkF m 102 #[.val (.int p1), .val (.int p2), .val (.int p3), .val (.int p4), .val (.int (1 : Int32)), .val (.int (0 : Int32)), .val (.ref sp), .val (.ref mo), .val (.int (22 : Int32)), .val (.int (21 : Int32)), .val (.int ((p2 &&& (2147483647 : Int32)) % (22 : Int32))), .unset, .unset, .unset, .unset, .unset, .unset, .unset] [(.int ((p4 &&& (2147483647 : Int32)) % (21 : Int32)))]))
      refine own_go ?_ (fun tq kt => XS.istore X31.here hx rfl (hb hby at_102) rfl (l' := #[.val (.int p1), .val (.int p2), .val (.int p3), .val (.int p4), .val (.int (1 : Int32)), .val (.int (0 : Int32)), .val (.ref sp), .val (.ref mo), .val (.int (22 : Int32)), .val (.int (21 : Int32)), .val (.int ((p2 &&& (2147483647 : Int32)) % (22 : Int32))), .val (.int ((p4 &&& (2147483647 : Int32)) % (21 : Int32))), .unset, .unset, .unset, .unset, .unset, .unset]) rfl kt)
      show own_Fin _ _ _ _ (T31.setTop (mkF m 104 #[.val (.int p1), .val (.int p2), .val (.int p3), .val (.int p4), .val (.int (1 : Int32)), .val (.int (0 : Int32)), .val (.ref sp), .val (.ref mo), .val (.int (22 : Int32)), .val (.int (21 : Int32)), .val (.int ((p2 &&& (2147483647 : Int32)) % (22 : Int32))), .val (.int ((p4 &&& (2147483647 : Int32)) % (21 : Int32))), .unset, .unset, .unset, .unset, .unset, .unset] []))
      have Bn1 := own_rem22 p2
      have Bn2 := own_rem21 p4
      generalize ((p2 &&& (2147483647 : Int32)) % (22 : Int32)) = n1 at Bn1 ⊢
      generalize ((p4 &&& (2147483647 : Int32)) % (21 : Int32)) = n2 at Bn2 ⊢
      show own_Fin _ _ _ _ (T31.setTop (mkF m 104 #[.val (.int p1), .val (.int p2), .val (.int p3), .val (.int p4), .val (.int (1 : Int32)), .val (.int (0 : Int32)), .val (.ref sp), .val (.ref mo), .val (.int (22 : Int32)), .val (.int (21 : Int32)), .val (.int n1), .val (.int n2), .unset, .unset, .unset, .unset, .unset, .unset] []))
      obtain ⟨T32, h32, X32, e32, E32, A32, D32, -, st32⟩ := newO X31 hx hZ hown (hw _ (List.mem_of_getElem? (i := 4) rfl)) (hw _ (List.mem_of_getElem? (i := 5) rfl)) (hw _ (List.mem_of_getElem? (i := 6) rfl)) e31 (g := (mkF m 104 #[.val (.int p1), .val (.int p2), .val (.int p3), .val (.int p4), .val (.int (1 : Int32)), .val (.int (0 : Int32)), .val (.ref sp), .val (.ref mo), .val (.int (22 : Int32)), .val (.int (21 : Int32)), .val (.int n1), .val (.int n2), .unset, .unset, .unset, .unset, .unset, .unset] [])) rfl (hb hby at_104) (by decide) (by decide)
      obtain ⟨b32, g32⟩ : ∃ z, z = h0.size := ⟨_, rfl⟩
      rw [← g32] at A32 D32 st32
      have zs33 := Nat.le_trans Z0 E32.1
      have od33 := O0.ext E32
      have g_b32 : n0 ≤ b32 := Nat.le_trans Z0 (Nat.le_of_eq g32.symm)
      have F32_agency : Fld Z h32 b32 "com/example/ballast_ledger/ballastledger/CreditRating" "agency" "Lcom/example/ballast_ledger/ballastledger/CreditRating$Agency;" .null := D32 (Or.inr (hw _ (List.mem_of_getElem? (i := 33) rfl))) (ty := (.object "com/example/ballast_ledger/ballastledger/CreditRating$Agency")) (by decide)
      have F32_notch : Fld Z h32 b32 "com/example/ballast_ledger/ballastledger/CreditRating" "notch" "I" (.int (0 : Int32)) := D32 (Or.inr (hw _ (List.mem_of_getElem? (i := 35) rfl))) (ty := .int) (by decide)
      refine own_go ?_ (fun tq kt => st32 _ kt)
      show own_Fin _ _ _ _ (T32.setTop (mkF m 107 #[.val (.int p1), .val (.int p2), .val (.int p3), .val (.int p4), .val (.int (1 : Int32)), .val (.int (0 : Int32)), .val (.ref sp), .val (.ref mo), .val (.int (22 : Int32)), .val (.int (21 : Int32)), .val (.int n1), .val (.int n2), .unset, .unset, .unset, .unset, .unset, .unset] [(.ref b32)]))
      refine own_go ?_ (fun tq kt => XS.dup X32.here hx rfl (hb hby at_107) rfl rfl kt)
      show own_Fin _ _ _ _ (T32.setTop (mkF m 108 #[.val (.int p1), .val (.int p2), .val (.int p3), .val (.int p4), .val (.int (1 : Int32)), .val (.int (0 : Int32)), .val (.ref sp), .val (.ref mo), .val (.int (22 : Int32)), .val (.int (21 : Int32)), .val (.int n1), .val (.int n2), .unset, .unset, .unset, .unset, .unset, .unset] [(.ref b32), (.ref b32)]))
      refine own_go ?_ (fun tq kt => XS.aload X32.here hx rfl (hb hby at_108) rfl rfl kt)
      show own_Fin _ _ _ _ (T32.setTop (mkF m 110 #[.val (.int p1), .val (.int p2), .val (.int p3), .val (.int p4), .val (.int (1 : Int32)), .val (.int (0 : Int32)), .val (.ref sp), .val (.ref mo), .val (.int (22 : Int32)), .val (.int (21 : Int32)), .val (.int n1), .val (.int n2), .unset, .unset, .unset, .unset, .unset, .unset] [(.ref sp), (.ref b32), (.ref b32)]))
      refine own_go ?_ (fun tq kt => XS.iload X32.here hx rfl (hb hby at_110) rfl kt)
      show own_Fin _ _ _ _ (T32.setTop (mkF m 112 #[.val (.int p1), .val (.int p2), .val (.int p3), .val (.int p4), .val (.int (1 : Int32)), .val (.int (0 : Int32)), .val (.ref sp), .val (.ref mo), .val (.int (22 : Int32)), .val (.int (21 : Int32)), .val (.int n1), .val (.int n2), .unset, .unset, .unset, .unset, .unset, .unset] [(.int n1), (.ref sp), (.ref b32), (.ref b32)]))
      obtain ⟨_, _, ⟨T34, L34, k34, n34⟩, -, X34, ⟨Lc34, hQ34, l34, y34, z34⟩, st34⟩ := X32.specialBack hx (y := (⟨"com/example/ballast_ledger/ballastledger/CreditRating", "<init>", "(Lcom/example/ballast_ledger/ballastledger/CreditRating$Agency;I)V"⟩ : MethodName)) rfl hown (mvT hZ (hw _ (List.mem_of_getElem? (i := 7) rfl))) (mvT hZ (hw _ (List.mem_of_getElem? (i := 8) rfl))) (mvT hZ (hw _ (List.mem_of_getElem? (i := 9) rfl))) (by decide) (backOf (W := 1) (rm1 l Z a0 hw [] b32 sp n1 ssc sel scl (22 : Int32) h32 n0 zs33 od33 A32 F32_agency F32_notch g_b32 sFS sES sFE sAR sAS sAM Bn1.1 Bn1.2) hZ (hw _ (List.mem_of_getElem? (i := 9) rfl)) (hw _ (List.mem_of_getElem? (i := 6) rfl)) (by decide) (by decide)) (g := (mkF m 112 #[.val (.int p1), .val (.int p2), .val (.int p3), .val (.int p4), .val (.int (1 : Int32)), .val (.int (0 : Int32)), .val (.ref sp), .val (.ref mo), .val (.int (22 : Int32)), .val (.int (21 : Int32)), .val (.int n1), .val (.int n2), .unset, .unset, .unset, .unset, .unset, .unset] [(.int n1), (.ref sp), (.ref b32), (.ref b32)])) rfl (by rw [hml]; rfl) (Steps.refl _) (a := b32) (argsL := [(.ref sp), (.int n1)]) (rest := [(.ref b32)]) (lenOf own_pd2 rfl) rfl (by show 2 * 0 + _ ≤ _; exact Nat.le_of_eq rfl) (hb hby at_112) (fun _ _ => ⟨rfl, e32, (by decide : 1 + 0 ≤ _), (by decide : 2 + 0 ≤ _)⟩)
      dsimp only [Pt.U, Pt.locs, Pt.cells, Pt.slots] at X34 l34 y34 z34 st34 hQ34
      subst l34 y34 z34
      obtain ⟨rfl, N34q, K34, F34⟩ := hQ34
      have N34 := Fr.app N0 N34q
      obtain ⟨h34, e34⟩ : ∃ z, z = T34.heap := ⟨_, rfl⟩
      have e34' := e34.symm
      rw [← e34] at K34 F34
      have zs35 := Nat.le_trans zs33 K34.1
      have od35 := od33.keep K34 (allS g_b32 all0)
      refine own_go ?_ (fun tq kt => st34.trans kt)
      show own_Fin _ _ _ _ (T34.setTop (mkF m 115 #[.val (.int p1), .val (.int p2), .val (.int p3), .val (.int p4), .val (.int (1 : Int32)), .val (.int (0 : Int32)), .val (.ref sp), .val (.ref mo), .val (.int (22 : Int32)), .val (.int (21 : Int32)), .val (.int n1), .val (.int n2), .unset, .unset, .unset, .unset, .unset, .unset] [(.ref b32)]))
      refine own_go ?_ (fun tq kt => XS.astore X34.here hx rfl (hb hby at_115) rfl rfl (l' := #[.val (.int p1), .val (.int p2), .val (.int p3), .val (.int p4), .val (.int (1 : Int32)), .val (.int (0 : Int32)), .val (.ref sp), .val (.ref mo), .val (.int (22 : Int32)), .val (.int (21 : Int32)), .val (.int n1), .val (.int n2), .val (.ref b32), .unset, .unset, .unset, .unset, .unset]) rfl kt)
      show own_Fin _ _ _ _ (T34.setTop (mkF m 117 #[.val (.int p1), .val (.int p2), .val (.int p3), .val (.int p4), .val (.int (1 : Int32)), .val (.int (0 : Int32)), .val (.ref sp), .val (.ref mo), .val (.int (22 : Int32)), .val (.int (21 : Int32)), .val (.int n1), .val (.int n2), .val (.ref b32), .unset, .unset, .unset, .unset, .unset] []))
      obtain ⟨T36, h36, X36, e36, E36, A36, D36, -, st36⟩ := newO X34 hx hZ hown (hw _ (List.mem_of_getElem? (i := 4) rfl)) (hw _ (List.mem_of_getElem? (i := 5) rfl)) (hw _ (List.mem_of_getElem? (i := 6) rfl)) e34' (g := (mkF m 117 #[.val (.int p1), .val (.int p2), .val (.int p3), .val (.int p4), .val (.int (1 : Int32)), .val (.int (0 : Int32)), .val (.ref sp), .val (.ref mo), .val (.int (22 : Int32)), .val (.int (21 : Int32)), .val (.int n1), .val (.int n2), .val (.ref b32), .unset, .unset, .unset, .unset, .unset] [])) rfl (hb hby at_117) (by decide) (by decide)
      obtain ⟨b36, g36⟩ : ∃ z, z = h34.size := ⟨_, rfl⟩
      rw [← g36] at A36 D36 st36
      have zs37 := Nat.le_trans zs35 E36.1
      have od37 := od35.ext E36
      have g_b36 : n0 ≤ b36 := Nat.le_trans zs35 (Nat.le_of_eq g36.symm)
      have ne_b32_b36 : b32 ≠ b36 := Nat.ne_of_lt (Nat.lt_of_lt_of_le ((A32.keep K34)).lt (Nat.le_of_eq g36.symm))
      have F36_agency : Fld Z h36 b36 "com/example/ballast_ledger/ballastledger/CreditRating" "agency" "Lcom/example/ballast_ledger/ballastledger/CreditRating$Agency;" .null := D36 (Or.inr (hw _ (List.mem_of_getElem? (i := 33) rfl))) (ty := (.object "com/example/ballast_ledger/ballastledger/CreditRating$Agency")) (by decide)
      have F36_notch : Fld Z h36 b36 "com/example/ballast_ledger/ballastledger/CreditRating" "notch" "I" (.int (0 : Int32)) := D36 (Or.inr (hw _ (List.mem_of_getElem? (i := 35) rfl))) (ty := .int) (by decide)
      refine own_go ?_ (fun tq kt => st36 _ kt)
      show own_Fin _ _ _ _ (T36.setTop (mkF m 120 #[.val (.int p1), .val (.int p2), .val (.int p3), .val (.int p4), .val (.int (1 : Int32)), .val (.int (0 : Int32)), .val (.ref sp), .val (.ref mo), .val (.int (22 : Int32)), .val (.int (21 : Int32)), .val (.int n1), .val (.int n2), .val (.ref b32), .unset, .unset, .unset, .unset, .unset] [(.ref b36)]))
      refine own_go ?_ (fun tq kt => XS.dup X36.here hx rfl (hb hby at_120) rfl rfl kt)
      show own_Fin _ _ _ _ (T36.setTop (mkF m 121 #[.val (.int p1), .val (.int p2), .val (.int p3), .val (.int p4), .val (.int (1 : Int32)), .val (.int (0 : Int32)), .val (.ref sp), .val (.ref mo), .val (.int (22 : Int32)), .val (.int (21 : Int32)), .val (.int n1), .val (.int n2), .val (.ref b32), .unset, .unset, .unset, .unset, .unset] [(.ref b36), (.ref b36)]))
      refine own_go ?_ (fun tq kt => XS.aload X36.here hx rfl (hb hby at_121) rfl rfl kt)
      show own_Fin _ _ _ _ (T36.setTop (mkF m 123 #[.val (.int p1), .val (.int p2), .val (.int p3), .val (.int p4), .val (.int (1 : Int32)), .val (.int (0 : Int32)), .val (.ref sp), .val (.ref mo), .val (.int (22 : Int32)), .val (.int (21 : Int32)), .val (.int n1), .val (.int n2), .val (.ref b32), .unset, .unset, .unset, .unset, .unset] [(.ref mo), (.ref b36), (.ref b36)]))
      refine own_go ?_ (fun tq kt => XS.iload X36.here hx rfl (hb hby at_123) rfl kt)
      show own_Fin _ _ _ _ (T36.setTop (mkF m 125 #[.val (.int p1), .val (.int p2), .val (.int p3), .val (.int p4), .val (.int (1 : Int32)), .val (.int (0 : Int32)), .val (.ref sp), .val (.ref mo), .val (.int (22 : Int32)), .val (.int (21 : Int32)), .val (.int n1), .val (.int n2), .val (.ref b32), .unset, .unset, .unset, .unset, .unset] [(.int n2), (.ref mo), (.ref b36), (.ref b36)]))
      obtain ⟨_, _, ⟨T38, L38, k38, n38⟩, -, X38, ⟨Lc38, hQ38, l38, y38, z38⟩, st38⟩ := X36.specialBack hx (y := (⟨"com/example/ballast_ledger/ballastledger/CreditRating", "<init>", "(Lcom/example/ballast_ledger/ballastledger/CreditRating$Agency;I)V"⟩ : MethodName)) rfl hown (mvT hZ (hw _ (List.mem_of_getElem? (i := 7) rfl))) (mvT hZ (hw _ (List.mem_of_getElem? (i := 8) rfl))) (mvT hZ (hw _ (List.mem_of_getElem? (i := 9) rfl))) (by decide) (backOf (W := 1) (rm1 l Z a0 hw [] b36 mo n2 msc mel mcl (21 : Int32) h36 n0 zs37 od37 A36 F36_agency F36_notch g_b36 mFS mES mFE mAR mAS mAM Bn2.1 Bn2.2) hZ (hw _ (List.mem_of_getElem? (i := 9) rfl)) (hw _ (List.mem_of_getElem? (i := 6) rfl)) (by decide) (by decide)) (g := (mkF m 125 #[.val (.int p1), .val (.int p2), .val (.int p3), .val (.int p4), .val (.int (1 : Int32)), .val (.int (0 : Int32)), .val (.ref sp), .val (.ref mo), .val (.int (22 : Int32)), .val (.int (21 : Int32)), .val (.int n1), .val (.int n2), .val (.ref b32), .unset, .unset, .unset, .unset, .unset] [(.int n2), (.ref mo), (.ref b36), (.ref b36)])) rfl (by rw [hml]; rfl) (Steps.refl _) (a := b36) (argsL := [(.ref mo), (.int n2)]) (rest := [(.ref b36)]) (lenOf own_pd2 rfl) rfl (by show 2 * 0 + _ ≤ _; exact Nat.le_of_eq rfl) (hb hby at_125) (fun _ _ => ⟨rfl, e36, (by decide : 2 + 0 ≤ _), (by decide : 4 + 0 ≤ _)⟩)
      dsimp only [Pt.U, Pt.locs, Pt.cells, Pt.slots] at X38 l38 y38 z38 st38 hQ38
      subst l38 y38 z38
      obtain ⟨rfl, N38q, K38, F38⟩ := hQ38
      have N38 := Fr.app N34 N38q
      obtain ⟨h38, e38⟩ : ∃ z, z = T38.heap := ⟨_, rfl⟩
      have e38' := e38.symm
      rw [← e38] at K38 F38
      have zs39 := Nat.le_trans zs37 K38.1
      have od39 := od37.keep K38 (allS g_b36 all0)
      refine own_go ?_ (fun tq kt => st38.trans kt)
      show own_Fin _ _ _ _ (T38.setTop (mkF m 128 #[.val (.int p1), .val (.int p2), .val (.int p3), .val (.int p4), .val (.int (1 : Int32)), .val (.int (0 : Int32)), .val (.ref sp), .val (.ref mo), .val (.int (22 : Int32)), .val (.int (21 : Int32)), .val (.int n1), .val (.int n2), .val (.ref b32), .unset, .unset, .unset, .unset, .unset] [(.ref b36)]))
      refine own_go ?_ (fun tq kt => XS.astore X38.here hx rfl (hb hby at_128) rfl rfl (l' := #[.val (.int p1), .val (.int p2), .val (.int p3), .val (.int p4), .val (.int (1 : Int32)), .val (.int (0 : Int32)), .val (.ref sp), .val (.ref mo), .val (.int (22 : Int32)), .val (.int (21 : Int32)), .val (.int n1), .val (.int n2), .val (.ref b32), .val (.ref b36), .unset, .unset, .unset, .unset]) rfl kt)
      show own_Fin _ _ _ _ (T38.setTop (mkF m 130 #[.val (.int p1), .val (.int p2), .val (.int p3), .val (.int p4), .val (.int (1 : Int32)), .val (.int (0 : Int32)), .val (.ref sp), .val (.ref mo), .val (.int (22 : Int32)), .val (.int (21 : Int32)), .val (.int n1), .val (.int n2), .val (.ref b32), .val (.ref b36), .unset, .unset, .unset, .unset] []))
      have hs := own_sub n1 n2 Bn1 Bn2
      have hs' := own_sub n2 n1 Bn2 Bn1
      by_cases h12 : n1 < n2
      · have h21 : ¬ n2 < n1 := Int32.lt_asymm h12
        refine own_go ?_ (fun tq kt => XS.aload X38.here hx rfl (hb hby at_130) rfl rfl kt)
        show own_Fin _ _ _ _ (T38.setTop (mkF m 132 #[.val (.int p1), .val (.int p2), .val (.int p3), .val (.int p4), .val (.int (1 : Int32)), .val (.int (0 : Int32)), .val (.ref sp), .val (.ref mo), .val (.int (22 : Int32)), .val (.int (21 : Int32)), .val (.int n1), .val (.int n2), .val (.ref b32), .val (.ref b36), .unset, .unset, .unset, .unset] [(.ref b32)]))
        refine own_go ?_ (fun tq kt => XS.aload X38.here hx rfl (hb hby at_132) rfl rfl kt)
        show own_Fin _ _ _ _ (T38.setTop (mkF m 134 #[.val (.int p1), .val (.int p2), .val (.int p3), .val (.int p4), .val (.int (1 : Int32)), .val (.int (0 : Int32)), .val (.ref sp), .val (.ref mo), .val (.int (22 : Int32)), .val (.int (21 : Int32)), .val (.int n1), .val (.int n2), .val (.ref b32), .val (.ref b36), .unset, .unset, .unset, .unset] [(.ref b36), (.ref b32)]))
        obtain ⟨cq40, kq40, q40a, q40b, q40c⟩ := isOf hZ e38' (((A32.keep K34).ext E36).keep K38)
        obtain ⟨_, _, ⟨T40, L40, k40, n40⟩, -, X40, ⟨Lc40, hQ40, l40, y40, z40⟩, st40⟩ := X38.virtualBack hx (y := (⟨"com/example/ballast_ledger/ballastledger/CreditRating", "isBelow", "(Lcom/example/ballast_ledger/ballastledger/CreditRating;)Z"⟩ : MethodName)) (z := (⟨"com/example/ballast_ledger/ballastledger/CreditRating", "isBelow", "(Lcom/example/ballast_ledger/ballastledger/CreditRating;)Z"⟩ : MethodName)) hown (mvT hZ (hw _ (List.mem_of_getElem? (i := 36) rfl))) (mvT hZ (hw _ (List.mem_of_getElem? (i := 37) rfl))) (notFace_of_selects (args := #[]) (mvT hZ (hw _ (List.mem_of_getElem? (i := 39) rfl)))) (mvT hZ (hw _ (List.mem_of_getElem? (i := 39) rfl))) (mvT hZ (hw _ (List.mem_of_getElem? (i := 38) rfl))) (by decide) (backOf (W := 0) (rm5 l Z a0 hw [] b32 b36 n1 n2 (0 : Int32) h38 n0 zs39 ((F34.ext E36).keep K38 (ninS ne_b32_b36 nin0)) F38 ⟨fun q => absurd q h21, fun _ => rfl⟩) hZ (hw _ (List.mem_of_getElem? (i := 40) rfl)) (hw _ (List.mem_of_getElem? (i := 6) rfl)) (by decide) (by decide)) q40a q40c (g := (mkF m 134 #[.val (.int p1), .val (.int p2), .val (.int p3), .val (.int p4), .val (.int (1 : Int32)), .val (.int (0 : Int32)), .val (.ref sp), .val (.ref mo), .val (.int (22 : Int32)), .val (.int (21 : Int32)), .val (.int n1), .val (.int n2), .val (.ref b32), .val (.ref b36), .unset, .unset, .unset, .unset] [(.ref b36), (.ref b32)])) rfl (by rw [hml]; rfl) (Steps.refl _) (argsL := [(.ref b36)]) (rest := []) (lenOf own_pd3 rfl) rfl (by show 2 * 0 + _ ≤ _; exact Nat.le_of_eq rfl) (hb hby at_134) (fun _ _ => ⟨rfl, e38', (by decide : 2 + 0 ≤ _), (by decide : 4 + 0 ≤ _)⟩)
        dsimp only [Pt.U, Pt.locs, Pt.cells, Pt.slots] at X40 l40 y40 z40 st40 hQ40
        subst l40 y40 z40
        obtain ⟨rfl, N40q, e40⟩ := hQ40
        have N40 := Fr.app N38 N40q
        refine own_go ?_ (fun tq kt => st40.trans kt)
        show own_Fin _ _ _ _ (T40.setTop (mkF m 137 #[.val (.int p1), .val (.int p2), .val (.int p3), .val (.int p4), .val (.int (1 : Int32)), .val (.int (0 : Int32)), .val (.ref sp), .val (.ref mo), .val (.int (22 : Int32)), .val (.int (21 : Int32)), .val (.int n1), .val (.int n2), .val (.ref b32), .val (.ref b36), .unset, .unset, .unset, .unset] [(.int (0 : Int32))]))
        refine own_go ?_ (fun tq kt => XS.istore X40.here hx rfl (hb hby at_137) rfl (l' := #[.val (.int p1), .val (.int p2), .val (.int p3), .val (.int p4), .val (.int (1 : Int32)), .val (.int (0 : Int32)), .val (.ref sp), .val (.ref mo), .val (.int (22 : Int32)), .val (.int (21 : Int32)), .val (.int n1), .val (.int n2), .val (.ref b32), .val (.ref b36), .val (.int (0 : Int32)), .unset, .unset, .unset]) rfl kt)
        show own_Fin _ _ _ _ (T40.setTop (mkF m 139 #[.val (.int p1), .val (.int p2), .val (.int p3), .val (.int p4), .val (.int (1 : Int32)), .val (.int (0 : Int32)), .val (.ref sp), .val (.ref mo), .val (.int (22 : Int32)), .val (.int (21 : Int32)), .val (.int n1), .val (.int n2), .val (.ref b32), .val (.ref b36), .val (.int (0 : Int32)), .unset, .unset, .unset] []))
        refine own_go ?_ (fun tq kt => XS.aload X40.here hx rfl (hb hby at_139) rfl rfl kt)
        show own_Fin _ _ _ _ (T40.setTop (mkF m 141 #[.val (.int p1), .val (.int p2), .val (.int p3), .val (.int p4), .val (.int (1 : Int32)), .val (.int (0 : Int32)), .val (.ref sp), .val (.ref mo), .val (.int (22 : Int32)), .val (.int (21 : Int32)), .val (.int n1), .val (.int n2), .val (.ref b32), .val (.ref b36), .val (.int (0 : Int32)), .unset, .unset, .unset] [(.ref b36)]))
        refine own_go ?_ (fun tq kt => XS.aload X40.here hx rfl (hb hby at_141) rfl rfl kt)
        show own_Fin _ _ _ _ (T40.setTop (mkF m 143 #[.val (.int p1), .val (.int p2), .val (.int p3), .val (.int p4), .val (.int (1 : Int32)), .val (.int (0 : Int32)), .val (.ref sp), .val (.ref mo), .val (.int (22 : Int32)), .val (.int (21 : Int32)), .val (.int n1), .val (.int n2), .val (.ref b32), .val (.ref b36), .val (.int (0 : Int32)), .unset, .unset, .unset] [(.ref b32), (.ref b36)]))
        obtain ⟨cq41, kq41, q41a, q41b, q41c⟩ := isOf hZ e40 (A36.keep K38)
        obtain ⟨_, _, ⟨T41, L41, k41, n41⟩, -, X41, ⟨Lc41, hQ41, l41, y41, z41⟩, st41⟩ := X40.virtualBack hx (y := (⟨"com/example/ballast_ledger/ballastledger/CreditRating", "isBelow", "(Lcom/example/ballast_ledger/ballastledger/CreditRating;)Z"⟩ : MethodName)) (z := (⟨"com/example/ballast_ledger/ballastledger/CreditRating", "isBelow", "(Lcom/example/ballast_ledger/ballastledger/CreditRating;)Z"⟩ : MethodName)) hown (mvT hZ (hw _ (List.mem_of_getElem? (i := 36) rfl))) (mvT hZ (hw _ (List.mem_of_getElem? (i := 37) rfl))) (notFace_of_selects (args := #[]) (mvT hZ (hw _ (List.mem_of_getElem? (i := 39) rfl)))) (mvT hZ (hw _ (List.mem_of_getElem? (i := 39) rfl))) (mvT hZ (hw _ (List.mem_of_getElem? (i := 38) rfl))) (by decide) (backOf (W := 0) (rm5 l Z a0 hw [] b36 b32 n2 n1 (1 : Int32) h38 n0 zs39 F38 ((F34.ext E36).keep K38 (ninS ne_b32_b36 nin0)) ⟨fun _ => rfl, fun q => absurd h12 q⟩) hZ (hw _ (List.mem_of_getElem? (i := 40) rfl)) (hw _ (List.mem_of_getElem? (i := 6) rfl)) (by decide) (by decide)) q41a q41c (g := (mkF m 143 #[.val (.int p1), .val (.int p2), .val (.int p3), .val (.int p4), .val (.int (1 : Int32)), .val (.int (0 : Int32)), .val (.ref sp), .val (.ref mo), .val (.int (22 : Int32)), .val (.int (21 : Int32)), .val (.int n1), .val (.int n2), .val (.ref b32), .val (.ref b36), .val (.int (0 : Int32)), .unset, .unset, .unset] [(.ref b32), (.ref b36)])) rfl (by rw [hml]; rfl) (Steps.refl _) (argsL := [(.ref b32)]) (rest := []) (lenOf own_pd3 rfl) rfl (by show 2 * 0 + _ ≤ _; exact Nat.le_of_eq rfl) (hb hby at_143) (fun _ _ => ⟨rfl, e40, (by decide : 2 + 0 ≤ _), (by decide : 4 + 0 ≤ _)⟩)
        dsimp only [Pt.U, Pt.locs, Pt.cells, Pt.slots] at X41 l41 y41 z41 st41 hQ41
        subst l41 y41 z41
        obtain ⟨rfl, N41q, e41⟩ := hQ41
        have N41 := Fr.app N40 N41q
        refine own_go ?_ (fun tq kt => st41.trans kt)
        show own_Fin _ _ _ _ (T41.setTop (mkF m 146 #[.val (.int p1), .val (.int p2), .val (.int p3), .val (.int p4), .val (.int (1 : Int32)), .val (.int (0 : Int32)), .val (.ref sp), .val (.ref mo), .val (.int (22 : Int32)), .val (.int (21 : Int32)), .val (.int n1), .val (.int n2), .val (.ref b32), .val (.ref b36), .val (.int (0 : Int32)), .unset, .unset, .unset] [(.int (1 : Int32))]))
        refine own_go ?_ (fun tq kt => XS.istore X41.here hx rfl (hb hby at_146) rfl (l' := #[.val (.int p1), .val (.int p2), .val (.int p3), .val (.int p4), .val (.int (1 : Int32)), .val (.int (0 : Int32)), .val (.ref sp), .val (.ref mo), .val (.int (22 : Int32)), .val (.int (21 : Int32)), .val (.int n1), .val (.int n2), .val (.ref b32), .val (.ref b36), .val (.int (0 : Int32)), .val (.int (1 : Int32)), .unset, .unset]) rfl kt)
        show own_Fin _ _ _ _ (T41.setTop (mkF m 148 #[.val (.int p1), .val (.int p2), .val (.int p3), .val (.int p4), .val (.int (1 : Int32)), .val (.int (0 : Int32)), .val (.ref sp), .val (.ref mo), .val (.int (22 : Int32)), .val (.int (21 : Int32)), .val (.int n1), .val (.int n2), .val (.ref b32), .val (.ref b36), .val (.int (0 : Int32)), .val (.int (1 : Int32)), .unset, .unset] []))
        refine own_go ?_ (fun tq kt => XS.iload X41.here hx rfl (hb hby at_148) rfl kt)
        show own_Fin _ _ _ _ (T41.setTop (mkF m 150 #[.val (.int p1), .val (.int p2), .val (.int p3), .val (.int p4), .val (.int (1 : Int32)), .val (.int (0 : Int32)), .val (.ref sp), .val (.ref mo), .val (.int (22 : Int32)), .val (.int (21 : Int32)), .val (.int n1), .val (.int n2), .val (.ref b32), .val (.ref b36), .val (.int (0 : Int32)), .val (.int (1 : Int32)), .unset, .unset] [(.int n1)]))
        refine own_go ?_ (fun tq kt => XS.iload X41.here hx rfl (hb hby at_150) rfl kt)
        show own_Fin _ _ _ _ (T41.setTop (mkF m 152 #[.val (.int p1), .val (.int p2), .val (.int p3), .val (.int p4), .val (.int (1 : Int32)), .val (.int (0 : Int32)), .val (.ref sp), .val (.ref mo), .val (.int (22 : Int32)), .val (.int (21 : Int32)), .val (.int n1), .val (.int n2), .val (.ref b32), .val (.ref b36), .val (.int (0 : Int32)), .val (.int (1 : Int32)), .unset, .unset] [(.int n2), (.int n1)]))
        refine own_go ?_ (fun tq kt => XS.isub X41.here hx rfl (hb hby at_152) rfl kt)
        show own_Fin _ _ _ _ (T41.setTop (mkF m 153 #[.val (.int p1), .val (.int p2), .val (.int p3), .val (.int p4), .val (.int (1 : Int32)), .val (.int (0 : Int32)), .val (.ref sp), .val (.ref mo), .val (.int (22 : Int32)), .val (.int (21 : Int32)), .val (.int n1), .val (.int n2), .val (.ref b32), .val (.ref b36), .val (.int (0 : Int32)), .val (.int (1 : Int32)), .unset, .unset] [(.int (n1 - n2))]))
        refine own_go ?_ (fun tq kt => XS.iconst X41.here hx rfl (hb hby at_153) kt)
        show own_Fin _ _ _ _ (T41.setTop (mkF m 154 #[.val (.int p1), .val (.int p2), .val (.int p3), .val (.int p4), .val (.int (1 : Int32)), .val (.int (0 : Int32)), .val (.ref sp), .val (.ref mo), .val (.int (22 : Int32)), .val (.int (21 : Int32)), .val (.int n1), .val (.int n2), .val (.ref b32), .val (.ref b36), .val (.int (0 : Int32)), .val (.int (1 : Int32)), .unset, .unset] [(.int (1 : Int32)), (.int (n1 - n2))]))
        refine own_go ?_ (fun tq kt => XS.icmpYes X41.here hx rfl (pc0 := 154) (pc' := 161) rfl (hb hby at_154) rfl (tlt ((hs.2 h21) : (n1 - n2) < (1 : Int32))).1 (by decide) (by decide) kt)
        show own_Fin _ _ _ _ (T41.setTop (mkF m 161 #[.val (.int p1), .val (.int p2), .val (.int p3), .val (.int p4), .val (.int (1 : Int32)), .val (.int (0 : Int32)), .val (.ref sp), .val (.ref mo), .val (.int (22 : Int32)), .val (.int (21 : Int32)), .val (.int n1), .val (.int n2), .val (.ref b32), .val (.ref b36), .val (.int (0 : Int32)), .val (.int (1 : Int32)), .unset, .unset] []))
        refine own_go ?_ (fun tq kt => XS.iconst X41.here hx rfl (hb hby at_161) kt)
        show own_Fin _ _ _ _ (T41.setTop (mkF m 162 #[.val (.int p1), .val (.int p2), .val (.int p3), .val (.int p4), .val (.int (1 : Int32)), .val (.int (0 : Int32)), .val (.ref sp), .val (.ref mo), .val (.int (22 : Int32)), .val (.int (21 : Int32)), .val (.int n1), .val (.int n2), .val (.ref b32), .val (.ref b36), .val (.int (0 : Int32)), .val (.int (1 : Int32)), .unset, .unset] [(.int (0 : Int32))]))
        refine own_go ?_ (fun tq kt => XS.istore X41.here hx rfl (hb hby at_162) rfl (l' := #[.val (.int p1), .val (.int p2), .val (.int p3), .val (.int p4), .val (.int (1 : Int32)), .val (.int (0 : Int32)), .val (.ref sp), .val (.ref mo), .val (.int (22 : Int32)), .val (.int (21 : Int32)), .val (.int n1), .val (.int n2), .val (.ref b32), .val (.ref b36), .val (.int (0 : Int32)), .val (.int (1 : Int32)), .val (.int (0 : Int32)), .unset]) rfl kt)
        show own_Fin _ _ _ _ (T41.setTop (mkF m 164 #[.val (.int p1), .val (.int p2), .val (.int p3), .val (.int p4), .val (.int (1 : Int32)), .val (.int (0 : Int32)), .val (.ref sp), .val (.ref mo), .val (.int (22 : Int32)), .val (.int (21 : Int32)), .val (.int n1), .val (.int n2), .val (.ref b32), .val (.ref b36), .val (.int (0 : Int32)), .val (.int (1 : Int32)), .val (.int (0 : Int32)), .unset] []))
        refine own_go ?_ (fun tq kt => XS.iload X41.here hx rfl (hb hby at_164) rfl kt)
        show own_Fin _ _ _ _ (T41.setTop (mkF m 166 #[.val (.int p1), .val (.int p2), .val (.int p3), .val (.int p4), .val (.int (1 : Int32)), .val (.int (0 : Int32)), .val (.ref sp), .val (.ref mo), .val (.int (22 : Int32)), .val (.int (21 : Int32)), .val (.int n1), .val (.int n2), .val (.ref b32), .val (.ref b36), .val (.int (0 : Int32)), .val (.int (1 : Int32)), .val (.int (0 : Int32)), .unset] [(.int n2)]))
        refine own_go ?_ (fun tq kt => XS.iload X41.here hx rfl (hb hby at_166) rfl kt)
        show own_Fin _ _ _ _ (T41.setTop (mkF m 168 #[.val (.int p1), .val (.int p2), .val (.int p3), .val (.int p4), .val (.int (1 : Int32)), .val (.int (0 : Int32)), .val (.ref sp), .val (.ref mo), .val (.int (22 : Int32)), .val (.int (21 : Int32)), .val (.int n1), .val (.int n2), .val (.ref b32), .val (.ref b36), .val (.int (0 : Int32)), .val (.int (1 : Int32)), .val (.int (0 : Int32)), .unset] [(.int n1), (.int n2)]))
        refine own_go ?_ (fun tq kt => XS.isub X41.here hx rfl (hb hby at_168) rfl kt)
        show own_Fin _ _ _ _ (T41.setTop (mkF m 169 #[.val (.int p1), .val (.int p2), .val (.int p3), .val (.int p4), .val (.int (1 : Int32)), .val (.int (0 : Int32)), .val (.ref sp), .val (.ref mo), .val (.int (22 : Int32)), .val (.int (21 : Int32)), .val (.int n1), .val (.int n2), .val (.ref b32), .val (.ref b36), .val (.int (0 : Int32)), .val (.int (1 : Int32)), .val (.int (0 : Int32)), .unset] [(.int (n2 - n1))]))
        refine own_go ?_ (fun tq kt => XS.iconst X41.here hx rfl (hb hby at_169) kt)
        show own_Fin _ _ _ _ (T41.setTop (mkF m 170 #[.val (.int p1), .val (.int p2), .val (.int p3), .val (.int p4), .val (.int (1 : Int32)), .val (.int (0 : Int32)), .val (.ref sp), .val (.ref mo), .val (.int (22 : Int32)), .val (.int (21 : Int32)), .val (.int n1), .val (.int n2), .val (.ref b32), .val (.ref b36), .val (.int (0 : Int32)), .val (.int (1 : Int32)), .val (.int (0 : Int32)), .unset] [(.int (1 : Int32)), (.int (n2 - n1))]))
        refine own_go ?_ (fun tq kt => XS.icmpNo X41.here hx rfl (hb hby at_170) rfl (flt ((hs'.1 h12) : ¬ ((n2 - n1) < (1 : Int32)))).1 kt)
        show own_Fin _ _ _ _ (T41.setTop (mkF m 173 #[.val (.int p1), .val (.int p2), .val (.int p3), .val (.int p4), .val (.int (1 : Int32)), .val (.int (0 : Int32)), .val (.ref sp), .val (.ref mo), .val (.int (22 : Int32)), .val (.int (21 : Int32)), .val (.int n1), .val (.int n2), .val (.ref b32), .val (.ref b36), .val (.int (0 : Int32)), .val (.int (1 : Int32)), .val (.int (0 : Int32)), .unset] []))
        refine own_go ?_ (fun tq kt => XS.iconst X41.here hx rfl (hb hby at_173) kt)
        show own_Fin _ _ _ _ (T41.setTop (mkF m 174 #[.val (.int p1), .val (.int p2), .val (.int p3), .val (.int p4), .val (.int (1 : Int32)), .val (.int (0 : Int32)), .val (.ref sp), .val (.ref mo), .val (.int (22 : Int32)), .val (.int (21 : Int32)), .val (.int n1), .val (.int n2), .val (.ref b32), .val (.ref b36), .val (.int (0 : Int32)), .val (.int (1 : Int32)), .val (.int (0 : Int32)), .unset] [(.int (1 : Int32))]))
        refine own_go ?_ (fun tq kt => XS.goto X41.here hx rfl (pc0 := 174) (pc' := 178) rfl (hb hby at_174) (by decide) (by decide) kt)
        show own_Fin _ _ _ _ (T41.setTop (mkF m 178 #[.val (.int p1), .val (.int p2), .val (.int p3), .val (.int p4), .val (.int (1 : Int32)), .val (.int (0 : Int32)), .val (.ref sp), .val (.ref mo), .val (.int (22 : Int32)), .val (.int (21 : Int32)), .val (.int n1), .val (.int n2), .val (.ref b32), .val (.ref b36), .val (.int (0 : Int32)), .val (.int (1 : Int32)), .val (.int (0 : Int32)), .unset] [(.int (1 : Int32))]))
        refine own_go ?_ (fun tq kt => XS.istore X41.here hx rfl (hb hby at_178) rfl (l' := #[.val (.int p1), .val (.int p2), .val (.int p3), .val (.int p4), .val (.int (1 : Int32)), .val (.int (0 : Int32)), .val (.ref sp), .val (.ref mo), .val (.int (22 : Int32)), .val (.int (21 : Int32)), .val (.int n1), .val (.int n2), .val (.ref b32), .val (.ref b36), .val (.int (0 : Int32)), .val (.int (1 : Int32)), .val (.int (0 : Int32)), .val (.int (1 : Int32))]) rfl kt)
        show own_Fin _ _ _ _ (T41.setTop (mkF m 180 #[.val (.int p1), .val (.int p2), .val (.int p3), .val (.int p4), .val (.int (1 : Int32)), .val (.int (0 : Int32)), .val (.ref sp), .val (.ref mo), .val (.int (22 : Int32)), .val (.int (21 : Int32)), .val (.int n1), .val (.int n2), .val (.ref b32), .val (.ref b36), .val (.int (0 : Int32)), .val (.int (1 : Int32)), .val (.int (0 : Int32)), .val (.int (1 : Int32))] []))
        refine own_go ?_ (fun tq kt => XS.iload X41.here hx rfl (hb hby at_180) rfl kt)
        show own_Fin _ _ _ _ (T41.setTop (mkF m 182 #[.val (.int p1), .val (.int p2), .val (.int p3), .val (.int p4), .val (.int (1 : Int32)), .val (.int (0 : Int32)), .val (.ref sp), .val (.ref mo), .val (.int (22 : Int32)), .val (.int (21 : Int32)), .val (.int n1), .val (.int n2), .val (.ref b32), .val (.ref b36), .val (.int (0 : Int32)), .val (.int (1 : Int32)), .val (.int (0 : Int32)), .val (.int (1 : Int32))] [(.int (0 : Int32))]))
        refine own_go ?_ (fun tq kt => XS.iload X41.here hx rfl (hb hby at_182) rfl kt)
        show own_Fin _ _ _ _ (T41.setTop (mkF m 184 #[.val (.int p1), .val (.int p2), .val (.int p3), .val (.int p4), .val (.int (1 : Int32)), .val (.int (0 : Int32)), .val (.ref sp), .val (.ref mo), .val (.int (22 : Int32)), .val (.int (21 : Int32)), .val (.int n1), .val (.int n2), .val (.ref b32), .val (.ref b36), .val (.int (0 : Int32)), .val (.int (1 : Int32)), .val (.int (0 : Int32)), .val (.int (1 : Int32))] [(.int (0 : Int32)), (.int (0 : Int32))]))
        refine own_go ?_ (fun tq kt => XS.icmpNo X41.here hx rfl (hb hby at_184) rfl (teq (rfl : (0 : Int32) = (0 : Int32))).2 kt)
        show own_Fin _ _ _ _ (T41.setTop (mkF m 187 #[.val (.int p1), .val (.int p2), .val (.int p3), .val (.int p4), .val (.int (1 : Int32)), .val (.int (0 : Int32)), .val (.ref sp), .val (.ref mo), .val (.int (22 : Int32)), .val (.int (21 : Int32)), .val (.int n1), .val (.int n2), .val (.ref b32), .val (.ref b36), .val (.int (0 : Int32)), .val (.int (1 : Int32)), .val (.int (0 : Int32)), .val (.int (1 : Int32))] []))
        refine own_go ?_ (fun tq kt => XS.iload X41.here hx rfl (hb hby at_187) rfl kt)
        show own_Fin _ _ _ _ (T41.setTop (mkF m 189 #[.val (.int p1), .val (.int p2), .val (.int p3), .val (.int p4), .val (.int (1 : Int32)), .val (.int (0 : Int32)), .val (.ref sp), .val (.ref mo), .val (.int (22 : Int32)), .val (.int (21 : Int32)), .val (.int n1), .val (.int n2), .val (.ref b32), .val (.ref b36), .val (.int (0 : Int32)), .val (.int (1 : Int32)), .val (.int (0 : Int32)), .val (.int (1 : Int32))] [(.int (1 : Int32))]))
        refine own_go ?_ (fun tq kt => XS.iload X41.here hx rfl (hb hby at_189) rfl kt)
        show own_Fin _ _ _ _ (T41.setTop (mkF m 191 #[.val (.int p1), .val (.int p2), .val (.int p3), .val (.int p4), .val (.int (1 : Int32)), .val (.int (0 : Int32)), .val (.ref sp), .val (.ref mo), .val (.int (22 : Int32)), .val (.int (21 : Int32)), .val (.int n1), .val (.int n2), .val (.ref b32), .val (.ref b36), .val (.int (0 : Int32)), .val (.int (1 : Int32)), .val (.int (0 : Int32)), .val (.int (1 : Int32))] [(.int (1 : Int32)), (.int (1 : Int32))]))
        refine own_go ?_ (fun tq kt => XS.icmpNo X41.here hx rfl (hb hby at_191) rfl (teq (rfl : (1 : Int32) = (1 : Int32))).2 kt)
        show own_Fin _ _ _ _ (T41.setTop (mkF m 194 #[.val (.int p1), .val (.int p2), .val (.int p3), .val (.int p4), .val (.int (1 : Int32)), .val (.int (0 : Int32)), .val (.ref sp), .val (.ref mo), .val (.int (22 : Int32)), .val (.int (21 : Int32)), .val (.int n1), .val (.int n2), .val (.ref b32), .val (.ref b36), .val (.int (0 : Int32)), .val (.int (1 : Int32)), .val (.int (0 : Int32)), .val (.int (1 : Int32))] []))
        refine own_go ?_ (fun tq kt => XS.iconst X41.here hx rfl (hb hby at_194) kt)
        show own_Fin _ _ _ _ (T41.setTop (mkF m 195 #[.val (.int p1), .val (.int p2), .val (.int p3), .val (.int p4), .val (.int (1 : Int32)), .val (.int (0 : Int32)), .val (.ref sp), .val (.ref mo), .val (.int (22 : Int32)), .val (.int (21 : Int32)), .val (.int n1), .val (.int n2), .val (.ref b32), .val (.ref b36), .val (.int (0 : Int32)), .val (.int (1 : Int32)), .val (.int (0 : Int32)), .val (.int (1 : Int32))] [(.int (1 : Int32))]))
        refine own_go ?_ (fun tq kt => XS.goto X41.here hx rfl (pc0 := 195) (pc' := 199) rfl (hb hby at_195) (by decide) (by decide) kt)
        show own_Fin _ _ _ _ (T41.setTop (mkF m 199 #[.val (.int p1), .val (.int p2), .val (.int p3), .val (.int p4), .val (.int (1 : Int32)), .val (.int (0 : Int32)), .val (.ref sp), .val (.ref mo), .val (.int (22 : Int32)), .val (.int (21 : Int32)), .val (.int n1), .val (.int n2), .val (.ref b32), .val (.ref b36), .val (.int (0 : Int32)), .val (.int (1 : Int32)), .val (.int (0 : Int32)), .val (.int (1 : Int32))] [(.int (1 : Int32))]))
        refine own_retN X41 hx (t := .boolean) Bd.returns (by simp) (hb hby at_199) hlk ?_ (by decide) (by decide)
        exact ⟨rfl, N41⟩
      · by_cases h21 : n2 < n1
        · skip
          refine own_go ?_ (fun tq kt => XS.aload X38.here hx rfl (hb hby at_130) rfl rfl kt)
          show own_Fin _ _ _ _ (T38.setTop (mkF m 132 #[.val (.int p1), .val (.int p2), .val (.int p3), .val (.int p4), .val (.int (1 : Int32)), .val (.int (0 : Int32)), .val (.ref sp), .val (.ref mo), .val (.int (22 : Int32)), .val (.int (21 : Int32)), .val (.int n1), .val (.int n2), .val (.ref b32), .val (.ref b36), .unset, .unset, .unset, .unset] [(.ref b32)]))
          refine own_go ?_ (fun tq kt => XS.aload X38.here hx rfl (hb hby at_132) rfl rfl kt)
          show own_Fin _ _ _ _ (T38.setTop (mkF m 134 #[.val (.int p1), .val (.int p2), .val (.int p3), .val (.int p4), .val (.int (1 : Int32)), .val (.int (0 : Int32)), .val (.ref sp), .val (.ref mo), .val (.int (22 : Int32)), .val (.int (21 : Int32)), .val (.int n1), .val (.int n2), .val (.ref b32), .val (.ref b36), .unset, .unset, .unset, .unset] [(.ref b36), (.ref b32)]))
          obtain ⟨cq42, kq42, q42a, q42b, q42c⟩ := isOf hZ e38' (((A32.keep K34).ext E36).keep K38)
          obtain ⟨_, _, ⟨T42, L42, k42, n42⟩, -, X42, ⟨Lc42, hQ42, l42, y42, z42⟩, st42⟩ := X38.virtualBack hx (y := (⟨"com/example/ballast_ledger/ballastledger/CreditRating", "isBelow", "(Lcom/example/ballast_ledger/ballastledger/CreditRating;)Z"⟩ : MethodName)) (z := (⟨"com/example/ballast_ledger/ballastledger/CreditRating", "isBelow", "(Lcom/example/ballast_ledger/ballastledger/CreditRating;)Z"⟩ : MethodName)) hown (mvT hZ (hw _ (List.mem_of_getElem? (i := 36) rfl))) (mvT hZ (hw _ (List.mem_of_getElem? (i := 37) rfl))) (notFace_of_selects (args := #[]) (mvT hZ (hw _ (List.mem_of_getElem? (i := 39) rfl)))) (mvT hZ (hw _ (List.mem_of_getElem? (i := 39) rfl))) (mvT hZ (hw _ (List.mem_of_getElem? (i := 38) rfl))) (by decide) (backOf (W := 0) (rm5 l Z a0 hw [] b32 b36 n1 n2 (1 : Int32) h38 n0 zs39 ((F34.ext E36).keep K38 (ninS ne_b32_b36 nin0)) F38 ⟨fun _ => rfl, fun q => absurd h21 q⟩) hZ (hw _ (List.mem_of_getElem? (i := 40) rfl)) (hw _ (List.mem_of_getElem? (i := 6) rfl)) (by decide) (by decide)) q42a q42c (g := (mkF m 134 #[.val (.int p1), .val (.int p2), .val (.int p3), .val (.int p4), .val (.int (1 : Int32)), .val (.int (0 : Int32)), .val (.ref sp), .val (.ref mo), .val (.int (22 : Int32)), .val (.int (21 : Int32)), .val (.int n1), .val (.int n2), .val (.ref b32), .val (.ref b36), .unset, .unset, .unset, .unset] [(.ref b36), (.ref b32)])) rfl (by rw [hml]; rfl) (Steps.refl _) (argsL := [(.ref b36)]) (rest := []) (lenOf own_pd3 rfl) rfl (by show 2 * 0 + _ ≤ _; exact Nat.le_of_eq rfl) (hb hby at_134) (fun _ _ => ⟨rfl, e38', (by decide : 2 + 0 ≤ _), (by decide : 4 + 0 ≤ _)⟩)
          dsimp only [Pt.U, Pt.locs, Pt.cells, Pt.slots] at X42 l42 y42 z42 st42 hQ42
          subst l42 y42 z42
          obtain ⟨rfl, N42q, e42⟩ := hQ42
          have N42 := Fr.app N38 N42q
          refine own_go ?_ (fun tq kt => st42.trans kt)
          show own_Fin _ _ _ _ (T42.setTop (mkF m 137 #[.val (.int p1), .val (.int p2), .val (.int p3), .val (.int p4), .val (.int (1 : Int32)), .val (.int (0 : Int32)), .val (.ref sp), .val (.ref mo), .val (.int (22 : Int32)), .val (.int (21 : Int32)), .val (.int n1), .val (.int n2), .val (.ref b32), .val (.ref b36), .unset, .unset, .unset, .unset] [(.int (1 : Int32))]))
          refine own_go ?_ (fun tq kt => XS.istore X42.here hx rfl (hb hby at_137) rfl (l' := #[.val (.int p1), .val (.int p2), .val (.int p3), .val (.int p4), .val (.int (1 : Int32)), .val (.int (0 : Int32)), .val (.ref sp), .val (.ref mo), .val (.int (22 : Int32)), .val (.int (21 : Int32)), .val (.int n1), .val (.int n2), .val (.ref b32), .val (.ref b36), .val (.int (1 : Int32)), .unset, .unset, .unset]) rfl kt)
          show own_Fin _ _ _ _ (T42.setTop (mkF m 139 #[.val (.int p1), .val (.int p2), .val (.int p3), .val (.int p4), .val (.int (1 : Int32)), .val (.int (0 : Int32)), .val (.ref sp), .val (.ref mo), .val (.int (22 : Int32)), .val (.int (21 : Int32)), .val (.int n1), .val (.int n2), .val (.ref b32), .val (.ref b36), .val (.int (1 : Int32)), .unset, .unset, .unset] []))
          refine own_go ?_ (fun tq kt => XS.aload X42.here hx rfl (hb hby at_139) rfl rfl kt)
          show own_Fin _ _ _ _ (T42.setTop (mkF m 141 #[.val (.int p1), .val (.int p2), .val (.int p3), .val (.int p4), .val (.int (1 : Int32)), .val (.int (0 : Int32)), .val (.ref sp), .val (.ref mo), .val (.int (22 : Int32)), .val (.int (21 : Int32)), .val (.int n1), .val (.int n2), .val (.ref b32), .val (.ref b36), .val (.int (1 : Int32)), .unset, .unset, .unset] [(.ref b36)]))
          refine own_go ?_ (fun tq kt => XS.aload X42.here hx rfl (hb hby at_141) rfl rfl kt)
          show own_Fin _ _ _ _ (T42.setTop (mkF m 143 #[.val (.int p1), .val (.int p2), .val (.int p3), .val (.int p4), .val (.int (1 : Int32)), .val (.int (0 : Int32)), .val (.ref sp), .val (.ref mo), .val (.int (22 : Int32)), .val (.int (21 : Int32)), .val (.int n1), .val (.int n2), .val (.ref b32), .val (.ref b36), .val (.int (1 : Int32)), .unset, .unset, .unset] [(.ref b32), (.ref b36)]))
          obtain ⟨cq43, kq43, q43a, q43b, q43c⟩ := isOf hZ e42 (A36.keep K38)
          obtain ⟨_, _, ⟨T43, L43, k43, n43⟩, -, X43, ⟨Lc43, hQ43, l43, y43, z43⟩, st43⟩ := X42.virtualBack hx (y := (⟨"com/example/ballast_ledger/ballastledger/CreditRating", "isBelow", "(Lcom/example/ballast_ledger/ballastledger/CreditRating;)Z"⟩ : MethodName)) (z := (⟨"com/example/ballast_ledger/ballastledger/CreditRating", "isBelow", "(Lcom/example/ballast_ledger/ballastledger/CreditRating;)Z"⟩ : MethodName)) hown (mvT hZ (hw _ (List.mem_of_getElem? (i := 36) rfl))) (mvT hZ (hw _ (List.mem_of_getElem? (i := 37) rfl))) (notFace_of_selects (args := #[]) (mvT hZ (hw _ (List.mem_of_getElem? (i := 39) rfl)))) (mvT hZ (hw _ (List.mem_of_getElem? (i := 39) rfl))) (mvT hZ (hw _ (List.mem_of_getElem? (i := 38) rfl))) (by decide) (backOf (W := 0) (rm5 l Z a0 hw [] b36 b32 n2 n1 (0 : Int32) h38 n0 zs39 F38 ((F34.ext E36).keep K38 (ninS ne_b32_b36 nin0)) ⟨fun q => absurd q h12, fun _ => rfl⟩) hZ (hw _ (List.mem_of_getElem? (i := 40) rfl)) (hw _ (List.mem_of_getElem? (i := 6) rfl)) (by decide) (by decide)) q43a q43c (g := (mkF m 143 #[.val (.int p1), .val (.int p2), .val (.int p3), .val (.int p4), .val (.int (1 : Int32)), .val (.int (0 : Int32)), .val (.ref sp), .val (.ref mo), .val (.int (22 : Int32)), .val (.int (21 : Int32)), .val (.int n1), .val (.int n2), .val (.ref b32), .val (.ref b36), .val (.int (1 : Int32)), .unset, .unset, .unset] [(.ref b32), (.ref b36)])) rfl (by rw [hml]; rfl) (Steps.refl _) (argsL := [(.ref b32)]) (rest := []) (lenOf own_pd3 rfl) rfl (by show 2 * 0 + _ ≤ _; exact Nat.le_of_eq rfl) (hb hby at_143) (fun _ _ => ⟨rfl, e42, (by decide : 2 + 0 ≤ _), (by decide : 4 + 0 ≤ _)⟩)
          dsimp only [Pt.U, Pt.locs, Pt.cells, Pt.slots] at X43 l43 y43 z43 st43 hQ43
          subst l43 y43 z43
          obtain ⟨rfl, N43q, e43⟩ := hQ43
          have N43 := Fr.app N42 N43q
          refine own_go ?_ (fun tq kt => st43.trans kt)
          show own_Fin _ _ _ _ (T43.setTop (mkF m 146 #[.val (.int p1), .val (.int p2), .val (.int p3), .val (.int p4), .val (.int (1 : Int32)), .val (.int (0 : Int32)), .val (.ref sp), .val (.ref mo), .val (.int (22 : Int32)), .val (.int (21 : Int32)), .val (.int n1), .val (.int n2), .val (.ref b32), .val (.ref b36), .val (.int (1 : Int32)), .unset, .unset, .unset] [(.int (0 : Int32))]))
          refine own_go ?_ (fun tq kt => XS.istore X43.here hx rfl (hb hby at_146) rfl (l' := #[.val (.int p1), .val (.int p2), .val (.int p3), .val (.int p4), .val (.int (1 : Int32)), .val (.int (0 : Int32)), .val (.ref sp), .val (.ref mo), .val (.int (22 : Int32)), .val (.int (21 : Int32)), .val (.int n1), .val (.int n2), .val (.ref b32), .val (.ref b36), .val (.int (1 : Int32)), .val (.int (0 : Int32)), .unset, .unset]) rfl kt)
          show own_Fin _ _ _ _ (T43.setTop (mkF m 148 #[.val (.int p1), .val (.int p2), .val (.int p3), .val (.int p4), .val (.int (1 : Int32)), .val (.int (0 : Int32)), .val (.ref sp), .val (.ref mo), .val (.int (22 : Int32)), .val (.int (21 : Int32)), .val (.int n1), .val (.int n2), .val (.ref b32), .val (.ref b36), .val (.int (1 : Int32)), .val (.int (0 : Int32)), .unset, .unset] []))
          refine own_go ?_ (fun tq kt => XS.iload X43.here hx rfl (hb hby at_148) rfl kt)
          show own_Fin _ _ _ _ (T43.setTop (mkF m 150 #[.val (.int p1), .val (.int p2), .val (.int p3), .val (.int p4), .val (.int (1 : Int32)), .val (.int (0 : Int32)), .val (.ref sp), .val (.ref mo), .val (.int (22 : Int32)), .val (.int (21 : Int32)), .val (.int n1), .val (.int n2), .val (.ref b32), .val (.ref b36), .val (.int (1 : Int32)), .val (.int (0 : Int32)), .unset, .unset] [(.int n1)]))
          refine own_go ?_ (fun tq kt => XS.iload X43.here hx rfl (hb hby at_150) rfl kt)
          show own_Fin _ _ _ _ (T43.setTop (mkF m 152 #[.val (.int p1), .val (.int p2), .val (.int p3), .val (.int p4), .val (.int (1 : Int32)), .val (.int (0 : Int32)), .val (.ref sp), .val (.ref mo), .val (.int (22 : Int32)), .val (.int (21 : Int32)), .val (.int n1), .val (.int n2), .val (.ref b32), .val (.ref b36), .val (.int (1 : Int32)), .val (.int (0 : Int32)), .unset, .unset] [(.int n2), (.int n1)]))
          refine own_go ?_ (fun tq kt => XS.isub X43.here hx rfl (hb hby at_152) rfl kt)
          show own_Fin _ _ _ _ (T43.setTop (mkF m 153 #[.val (.int p1), .val (.int p2), .val (.int p3), .val (.int p4), .val (.int (1 : Int32)), .val (.int (0 : Int32)), .val (.ref sp), .val (.ref mo), .val (.int (22 : Int32)), .val (.int (21 : Int32)), .val (.int n1), .val (.int n2), .val (.ref b32), .val (.ref b36), .val (.int (1 : Int32)), .val (.int (0 : Int32)), .unset, .unset] [(.int (n1 - n2))]))
          refine own_go ?_ (fun tq kt => XS.iconst X43.here hx rfl (hb hby at_153) kt)
          show own_Fin _ _ _ _ (T43.setTop (mkF m 154 #[.val (.int p1), .val (.int p2), .val (.int p3), .val (.int p4), .val (.int (1 : Int32)), .val (.int (0 : Int32)), .val (.ref sp), .val (.ref mo), .val (.int (22 : Int32)), .val (.int (21 : Int32)), .val (.int n1), .val (.int n2), .val (.ref b32), .val (.ref b36), .val (.int (1 : Int32)), .val (.int (0 : Int32)), .unset, .unset] [(.int (1 : Int32)), (.int (n1 - n2))]))
          refine own_go ?_ (fun tq kt => XS.icmpNo X43.here hx rfl (hb hby at_154) rfl (flt ((hs.1 h21) : ¬ ((n1 - n2) < (1 : Int32)))).1 kt)
          show own_Fin _ _ _ _ (T43.setTop (mkF m 157 #[.val (.int p1), .val (.int p2), .val (.int p3), .val (.int p4), .val (.int (1 : Int32)), .val (.int (0 : Int32)), .val (.ref sp), .val (.ref mo), .val (.int (22 : Int32)), .val (.int (21 : Int32)), .val (.int n1), .val (.int n2), .val (.ref b32), .val (.ref b36), .val (.int (1 : Int32)), .val (.int (0 : Int32)), .unset, .unset] []))
          refine own_go ?_ (fun tq kt => XS.iconst X43.here hx rfl (hb hby at_157) kt)
          show own_Fin _ _ _ _ (T43.setTop (mkF m 158 #[.val (.int p1), .val (.int p2), .val (.int p3), .val (.int p4), .val (.int (1 : Int32)), .val (.int (0 : Int32)), .val (.ref sp), .val (.ref mo), .val (.int (22 : Int32)), .val (.int (21 : Int32)), .val (.int n1), .val (.int n2), .val (.ref b32), .val (.ref b36), .val (.int (1 : Int32)), .val (.int (0 : Int32)), .unset, .unset] [(.int (1 : Int32))]))
          refine own_go ?_ (fun tq kt => XS.goto X43.here hx rfl (pc0 := 158) (pc' := 162) rfl (hb hby at_158) (by decide) (by decide) kt)
          show own_Fin _ _ _ _ (T43.setTop (mkF m 162 #[.val (.int p1), .val (.int p2), .val (.int p3), .val (.int p4), .val (.int (1 : Int32)), .val (.int (0 : Int32)), .val (.ref sp), .val (.ref mo), .val (.int (22 : Int32)), .val (.int (21 : Int32)), .val (.int n1), .val (.int n2), .val (.ref b32), .val (.ref b36), .val (.int (1 : Int32)), .val (.int (0 : Int32)), .unset, .unset] [(.int (1 : Int32))]))
          refine own_go ?_ (fun tq kt => XS.istore X43.here hx rfl (hb hby at_162) rfl (l' := #[.val (.int p1), .val (.int p2), .val (.int p3), .val (.int p4), .val (.int (1 : Int32)), .val (.int (0 : Int32)), .val (.ref sp), .val (.ref mo), .val (.int (22 : Int32)), .val (.int (21 : Int32)), .val (.int n1), .val (.int n2), .val (.ref b32), .val (.ref b36), .val (.int (1 : Int32)), .val (.int (0 : Int32)), .val (.int (1 : Int32)), .unset]) rfl kt)
          show own_Fin _ _ _ _ (T43.setTop (mkF m 164 #[.val (.int p1), .val (.int p2), .val (.int p3), .val (.int p4), .val (.int (1 : Int32)), .val (.int (0 : Int32)), .val (.ref sp), .val (.ref mo), .val (.int (22 : Int32)), .val (.int (21 : Int32)), .val (.int n1), .val (.int n2), .val (.ref b32), .val (.ref b36), .val (.int (1 : Int32)), .val (.int (0 : Int32)), .val (.int (1 : Int32)), .unset] []))
          refine own_go ?_ (fun tq kt => XS.iload X43.here hx rfl (hb hby at_164) rfl kt)
          show own_Fin _ _ _ _ (T43.setTop (mkF m 166 #[.val (.int p1), .val (.int p2), .val (.int p3), .val (.int p4), .val (.int (1 : Int32)), .val (.int (0 : Int32)), .val (.ref sp), .val (.ref mo), .val (.int (22 : Int32)), .val (.int (21 : Int32)), .val (.int n1), .val (.int n2), .val (.ref b32), .val (.ref b36), .val (.int (1 : Int32)), .val (.int (0 : Int32)), .val (.int (1 : Int32)), .unset] [(.int n2)]))
          refine own_go ?_ (fun tq kt => XS.iload X43.here hx rfl (hb hby at_166) rfl kt)
          show own_Fin _ _ _ _ (T43.setTop (mkF m 168 #[.val (.int p1), .val (.int p2), .val (.int p3), .val (.int p4), .val (.int (1 : Int32)), .val (.int (0 : Int32)), .val (.ref sp), .val (.ref mo), .val (.int (22 : Int32)), .val (.int (21 : Int32)), .val (.int n1), .val (.int n2), .val (.ref b32), .val (.ref b36), .val (.int (1 : Int32)), .val (.int (0 : Int32)), .val (.int (1 : Int32)), .unset] [(.int n1), (.int n2)]))
          refine own_go ?_ (fun tq kt => XS.isub X43.here hx rfl (hb hby at_168) rfl kt)
          show own_Fin _ _ _ _ (T43.setTop (mkF m 169 #[.val (.int p1), .val (.int p2), .val (.int p3), .val (.int p4), .val (.int (1 : Int32)), .val (.int (0 : Int32)), .val (.ref sp), .val (.ref mo), .val (.int (22 : Int32)), .val (.int (21 : Int32)), .val (.int n1), .val (.int n2), .val (.ref b32), .val (.ref b36), .val (.int (1 : Int32)), .val (.int (0 : Int32)), .val (.int (1 : Int32)), .unset] [(.int (n2 - n1))]))
          refine own_go ?_ (fun tq kt => XS.iconst X43.here hx rfl (hb hby at_169) kt)
          show own_Fin _ _ _ _ (T43.setTop (mkF m 170 #[.val (.int p1), .val (.int p2), .val (.int p3), .val (.int p4), .val (.int (1 : Int32)), .val (.int (0 : Int32)), .val (.ref sp), .val (.ref mo), .val (.int (22 : Int32)), .val (.int (21 : Int32)), .val (.int n1), .val (.int n2), .val (.ref b32), .val (.ref b36), .val (.int (1 : Int32)), .val (.int (0 : Int32)), .val (.int (1 : Int32)), .unset] [(.int (1 : Int32)), (.int (n2 - n1))]))
          refine own_go ?_ (fun tq kt => XS.icmpYes X43.here hx rfl (pc0 := 170) (pc' := 177) rfl (hb hby at_170) rfl (tlt ((hs'.2 h12) : (n2 - n1) < (1 : Int32))).1 (by decide) (by decide) kt)
          show own_Fin _ _ _ _ (T43.setTop (mkF m 177 #[.val (.int p1), .val (.int p2), .val (.int p3), .val (.int p4), .val (.int (1 : Int32)), .val (.int (0 : Int32)), .val (.ref sp), .val (.ref mo), .val (.int (22 : Int32)), .val (.int (21 : Int32)), .val (.int n1), .val (.int n2), .val (.ref b32), .val (.ref b36), .val (.int (1 : Int32)), .val (.int (0 : Int32)), .val (.int (1 : Int32)), .unset] []))
          refine own_go ?_ (fun tq kt => XS.iconst X43.here hx rfl (hb hby at_177) kt)
          show own_Fin _ _ _ _ (T43.setTop (mkF m 178 #[.val (.int p1), .val (.int p2), .val (.int p3), .val (.int p4), .val (.int (1 : Int32)), .val (.int (0 : Int32)), .val (.ref sp), .val (.ref mo), .val (.int (22 : Int32)), .val (.int (21 : Int32)), .val (.int n1), .val (.int n2), .val (.ref b32), .val (.ref b36), .val (.int (1 : Int32)), .val (.int (0 : Int32)), .val (.int (1 : Int32)), .unset] [(.int (0 : Int32))]))
          refine own_go ?_ (fun tq kt => XS.istore X43.here hx rfl (hb hby at_178) rfl (l' := #[.val (.int p1), .val (.int p2), .val (.int p3), .val (.int p4), .val (.int (1 : Int32)), .val (.int (0 : Int32)), .val (.ref sp), .val (.ref mo), .val (.int (22 : Int32)), .val (.int (21 : Int32)), .val (.int n1), .val (.int n2), .val (.ref b32), .val (.ref b36), .val (.int (1 : Int32)), .val (.int (0 : Int32)), .val (.int (1 : Int32)), .val (.int (0 : Int32))]) rfl kt)
          show own_Fin _ _ _ _ (T43.setTop (mkF m 180 #[.val (.int p1), .val (.int p2), .val (.int p3), .val (.int p4), .val (.int (1 : Int32)), .val (.int (0 : Int32)), .val (.ref sp), .val (.ref mo), .val (.int (22 : Int32)), .val (.int (21 : Int32)), .val (.int n1), .val (.int n2), .val (.ref b32), .val (.ref b36), .val (.int (1 : Int32)), .val (.int (0 : Int32)), .val (.int (1 : Int32)), .val (.int (0 : Int32))] []))
          refine own_go ?_ (fun tq kt => XS.iload X43.here hx rfl (hb hby at_180) rfl kt)
          show own_Fin _ _ _ _ (T43.setTop (mkF m 182 #[.val (.int p1), .val (.int p2), .val (.int p3), .val (.int p4), .val (.int (1 : Int32)), .val (.int (0 : Int32)), .val (.ref sp), .val (.ref mo), .val (.int (22 : Int32)), .val (.int (21 : Int32)), .val (.int n1), .val (.int n2), .val (.ref b32), .val (.ref b36), .val (.int (1 : Int32)), .val (.int (0 : Int32)), .val (.int (1 : Int32)), .val (.int (0 : Int32))] [(.int (1 : Int32))]))
          refine own_go ?_ (fun tq kt => XS.iload X43.here hx rfl (hb hby at_182) rfl kt)
          show own_Fin _ _ _ _ (T43.setTop (mkF m 184 #[.val (.int p1), .val (.int p2), .val (.int p3), .val (.int p4), .val (.int (1 : Int32)), .val (.int (0 : Int32)), .val (.ref sp), .val (.ref mo), .val (.int (22 : Int32)), .val (.int (21 : Int32)), .val (.int n1), .val (.int n2), .val (.ref b32), .val (.ref b36), .val (.int (1 : Int32)), .val (.int (0 : Int32)), .val (.int (1 : Int32)), .val (.int (0 : Int32))] [(.int (1 : Int32)), (.int (1 : Int32))]))
          refine own_go ?_ (fun tq kt => XS.icmpNo X43.here hx rfl (hb hby at_184) rfl (teq (rfl : (1 : Int32) = (1 : Int32))).2 kt)
          show own_Fin _ _ _ _ (T43.setTop (mkF m 187 #[.val (.int p1), .val (.int p2), .val (.int p3), .val (.int p4), .val (.int (1 : Int32)), .val (.int (0 : Int32)), .val (.ref sp), .val (.ref mo), .val (.int (22 : Int32)), .val (.int (21 : Int32)), .val (.int n1), .val (.int n2), .val (.ref b32), .val (.ref b36), .val (.int (1 : Int32)), .val (.int (0 : Int32)), .val (.int (1 : Int32)), .val (.int (0 : Int32))] []))
          refine own_go ?_ (fun tq kt => XS.iload X43.here hx rfl (hb hby at_187) rfl kt)
          show own_Fin _ _ _ _ (T43.setTop (mkF m 189 #[.val (.int p1), .val (.int p2), .val (.int p3), .val (.int p4), .val (.int (1 : Int32)), .val (.int (0 : Int32)), .val (.ref sp), .val (.ref mo), .val (.int (22 : Int32)), .val (.int (21 : Int32)), .val (.int n1), .val (.int n2), .val (.ref b32), .val (.ref b36), .val (.int (1 : Int32)), .val (.int (0 : Int32)), .val (.int (1 : Int32)), .val (.int (0 : Int32))] [(.int (0 : Int32))]))
          refine own_go ?_ (fun tq kt => XS.iload X43.here hx rfl (hb hby at_189) rfl kt)
          show own_Fin _ _ _ _ (T43.setTop (mkF m 191 #[.val (.int p1), .val (.int p2), .val (.int p3), .val (.int p4), .val (.int (1 : Int32)), .val (.int (0 : Int32)), .val (.ref sp), .val (.ref mo), .val (.int (22 : Int32)), .val (.int (21 : Int32)), .val (.int n1), .val (.int n2), .val (.ref b32), .val (.ref b36), .val (.int (1 : Int32)), .val (.int (0 : Int32)), .val (.int (1 : Int32)), .val (.int (0 : Int32))] [(.int (0 : Int32)), (.int (0 : Int32))]))
          refine own_go ?_ (fun tq kt => XS.icmpNo X43.here hx rfl (hb hby at_191) rfl (teq (rfl : (0 : Int32) = (0 : Int32))).2 kt)
          show own_Fin _ _ _ _ (T43.setTop (mkF m 194 #[.val (.int p1), .val (.int p2), .val (.int p3), .val (.int p4), .val (.int (1 : Int32)), .val (.int (0 : Int32)), .val (.ref sp), .val (.ref mo), .val (.int (22 : Int32)), .val (.int (21 : Int32)), .val (.int n1), .val (.int n2), .val (.ref b32), .val (.ref b36), .val (.int (1 : Int32)), .val (.int (0 : Int32)), .val (.int (1 : Int32)), .val (.int (0 : Int32))] []))
          refine own_go ?_ (fun tq kt => XS.iconst X43.here hx rfl (hb hby at_194) kt)
          show own_Fin _ _ _ _ (T43.setTop (mkF m 195 #[.val (.int p1), .val (.int p2), .val (.int p3), .val (.int p4), .val (.int (1 : Int32)), .val (.int (0 : Int32)), .val (.ref sp), .val (.ref mo), .val (.int (22 : Int32)), .val (.int (21 : Int32)), .val (.int n1), .val (.int n2), .val (.ref b32), .val (.ref b36), .val (.int (1 : Int32)), .val (.int (0 : Int32)), .val (.int (1 : Int32)), .val (.int (0 : Int32))] [(.int (1 : Int32))]))
          refine own_go ?_ (fun tq kt => XS.goto X43.here hx rfl (pc0 := 195) (pc' := 199) rfl (hb hby at_195) (by decide) (by decide) kt)
          show own_Fin _ _ _ _ (T43.setTop (mkF m 199 #[.val (.int p1), .val (.int p2), .val (.int p3), .val (.int p4), .val (.int (1 : Int32)), .val (.int (0 : Int32)), .val (.ref sp), .val (.ref mo), .val (.int (22 : Int32)), .val (.int (21 : Int32)), .val (.int n1), .val (.int n2), .val (.ref b32), .val (.ref b36), .val (.int (1 : Int32)), .val (.int (0 : Int32)), .val (.int (1 : Int32)), .val (.int (0 : Int32))] [(.int (1 : Int32))]))
          refine own_retN X43 hx (t := .boolean) Bd.returns (by simp) (hb hby at_199) hlk ?_ (by decide) (by decide)
          exact ⟨rfl, N43⟩
        · skip
          refine own_go ?_ (fun tq kt => XS.aload X38.here hx rfl (hb hby at_130) rfl rfl kt)
          show own_Fin _ _ _ _ (T38.setTop (mkF m 132 #[.val (.int p1), .val (.int p2), .val (.int p3), .val (.int p4), .val (.int (1 : Int32)), .val (.int (0 : Int32)), .val (.ref sp), .val (.ref mo), .val (.int (22 : Int32)), .val (.int (21 : Int32)), .val (.int n1), .val (.int n2), .val (.ref b32), .val (.ref b36), .unset, .unset, .unset, .unset] [(.ref b32)]))
          refine own_go ?_ (fun tq kt => XS.aload X38.here hx rfl (hb hby at_132) rfl rfl kt)
          show own_Fin _ _ _ _ (T38.setTop (mkF m 134 #[.val (.int p1), .val (.int p2), .val (.int p3), .val (.int p4), .val (.int (1 : Int32)), .val (.int (0 : Int32)), .val (.ref sp), .val (.ref mo), .val (.int (22 : Int32)), .val (.int (21 : Int32)), .val (.int n1), .val (.int n2), .val (.ref b32), .val (.ref b36), .unset, .unset, .unset, .unset] [(.ref b36), (.ref b32)]))
          obtain ⟨cq44, kq44, q44a, q44b, q44c⟩ := isOf hZ e38' (((A32.keep K34).ext E36).keep K38)
          obtain ⟨_, _, ⟨T44, L44, k44, n44⟩, -, X44, ⟨Lc44, hQ44, l44, y44, z44⟩, st44⟩ := X38.virtualBack hx (y := (⟨"com/example/ballast_ledger/ballastledger/CreditRating", "isBelow", "(Lcom/example/ballast_ledger/ballastledger/CreditRating;)Z"⟩ : MethodName)) (z := (⟨"com/example/ballast_ledger/ballastledger/CreditRating", "isBelow", "(Lcom/example/ballast_ledger/ballastledger/CreditRating;)Z"⟩ : MethodName)) hown (mvT hZ (hw _ (List.mem_of_getElem? (i := 36) rfl))) (mvT hZ (hw _ (List.mem_of_getElem? (i := 37) rfl))) (notFace_of_selects (args := #[]) (mvT hZ (hw _ (List.mem_of_getElem? (i := 39) rfl)))) (mvT hZ (hw _ (List.mem_of_getElem? (i := 39) rfl))) (mvT hZ (hw _ (List.mem_of_getElem? (i := 38) rfl))) (by decide) (backOf (W := 0) (rm5 l Z a0 hw [] b32 b36 n1 n2 (0 : Int32) h38 n0 zs39 ((F34.ext E36).keep K38 (ninS ne_b32_b36 nin0)) F38 ⟨fun q => absurd q h21, fun _ => rfl⟩) hZ (hw _ (List.mem_of_getElem? (i := 40) rfl)) (hw _ (List.mem_of_getElem? (i := 6) rfl)) (by decide) (by decide)) q44a q44c (g := (mkF m 134 #[.val (.int p1), .val (.int p2), .val (.int p3), .val (.int p4), .val (.int (1 : Int32)), .val (.int (0 : Int32)), .val (.ref sp), .val (.ref mo), .val (.int (22 : Int32)), .val (.int (21 : Int32)), .val (.int n1), .val (.int n2), .val (.ref b32), .val (.ref b36), .unset, .unset, .unset, .unset] [(.ref b36), (.ref b32)])) rfl (by rw [hml]; rfl) (Steps.refl _) (argsL := [(.ref b36)]) (rest := []) (lenOf own_pd3 rfl) rfl (by show 2 * 0 + _ ≤ _; exact Nat.le_of_eq rfl) (hb hby at_134) (fun _ _ => ⟨rfl, e38', (by decide : 2 + 0 ≤ _), (by decide : 4 + 0 ≤ _)⟩)
          dsimp only [Pt.U, Pt.locs, Pt.cells, Pt.slots] at X44 l44 y44 z44 st44 hQ44
          subst l44 y44 z44
          obtain ⟨rfl, N44q, e44⟩ := hQ44
          have N44 := Fr.app N38 N44q
          refine own_go ?_ (fun tq kt => st44.trans kt)
          show own_Fin _ _ _ _ (T44.setTop (mkF m 137 #[.val (.int p1), .val (.int p2), .val (.int p3), .val (.int p4), .val (.int (1 : Int32)), .val (.int (0 : Int32)), .val (.ref sp), .val (.ref mo), .val (.int (22 : Int32)), .val (.int (21 : Int32)), .val (.int n1), .val (.int n2), .val (.ref b32), .val (.ref b36), .unset, .unset, .unset, .unset] [(.int (0 : Int32))]))
          refine own_go ?_ (fun tq kt => XS.istore X44.here hx rfl (hb hby at_137) rfl (l' := #[.val (.int p1), .val (.int p2), .val (.int p3), .val (.int p4), .val (.int (1 : Int32)), .val (.int (0 : Int32)), .val (.ref sp), .val (.ref mo), .val (.int (22 : Int32)), .val (.int (21 : Int32)), .val (.int n1), .val (.int n2), .val (.ref b32), .val (.ref b36), .val (.int (0 : Int32)), .unset, .unset, .unset]) rfl kt)
          show own_Fin _ _ _ _ (T44.setTop (mkF m 139 #[.val (.int p1), .val (.int p2), .val (.int p3), .val (.int p4), .val (.int (1 : Int32)), .val (.int (0 : Int32)), .val (.ref sp), .val (.ref mo), .val (.int (22 : Int32)), .val (.int (21 : Int32)), .val (.int n1), .val (.int n2), .val (.ref b32), .val (.ref b36), .val (.int (0 : Int32)), .unset, .unset, .unset] []))
          refine own_go ?_ (fun tq kt => XS.aload X44.here hx rfl (hb hby at_139) rfl rfl kt)
          show own_Fin _ _ _ _ (T44.setTop (mkF m 141 #[.val (.int p1), .val (.int p2), .val (.int p3), .val (.int p4), .val (.int (1 : Int32)), .val (.int (0 : Int32)), .val (.ref sp), .val (.ref mo), .val (.int (22 : Int32)), .val (.int (21 : Int32)), .val (.int n1), .val (.int n2), .val (.ref b32), .val (.ref b36), .val (.int (0 : Int32)), .unset, .unset, .unset] [(.ref b36)]))
          refine own_go ?_ (fun tq kt => XS.aload X44.here hx rfl (hb hby at_141) rfl rfl kt)
          show own_Fin _ _ _ _ (T44.setTop (mkF m 143 #[.val (.int p1), .val (.int p2), .val (.int p3), .val (.int p4), .val (.int (1 : Int32)), .val (.int (0 : Int32)), .val (.ref sp), .val (.ref mo), .val (.int (22 : Int32)), .val (.int (21 : Int32)), .val (.int n1), .val (.int n2), .val (.ref b32), .val (.ref b36), .val (.int (0 : Int32)), .unset, .unset, .unset] [(.ref b32), (.ref b36)]))
          obtain ⟨cq45, kq45, q45a, q45b, q45c⟩ := isOf hZ e44 (A36.keep K38)
          obtain ⟨_, _, ⟨T45, L45, k45, n45⟩, -, X45, ⟨Lc45, hQ45, l45, y45, z45⟩, st45⟩ := X44.virtualBack hx (y := (⟨"com/example/ballast_ledger/ballastledger/CreditRating", "isBelow", "(Lcom/example/ballast_ledger/ballastledger/CreditRating;)Z"⟩ : MethodName)) (z := (⟨"com/example/ballast_ledger/ballastledger/CreditRating", "isBelow", "(Lcom/example/ballast_ledger/ballastledger/CreditRating;)Z"⟩ : MethodName)) hown (mvT hZ (hw _ (List.mem_of_getElem? (i := 36) rfl))) (mvT hZ (hw _ (List.mem_of_getElem? (i := 37) rfl))) (notFace_of_selects (args := #[]) (mvT hZ (hw _ (List.mem_of_getElem? (i := 39) rfl)))) (mvT hZ (hw _ (List.mem_of_getElem? (i := 39) rfl))) (mvT hZ (hw _ (List.mem_of_getElem? (i := 38) rfl))) (by decide) (backOf (W := 0) (rm5 l Z a0 hw [] b36 b32 n2 n1 (0 : Int32) h38 n0 zs39 F38 ((F34.ext E36).keep K38 (ninS ne_b32_b36 nin0)) ⟨fun q => absurd q h12, fun _ => rfl⟩) hZ (hw _ (List.mem_of_getElem? (i := 40) rfl)) (hw _ (List.mem_of_getElem? (i := 6) rfl)) (by decide) (by decide)) q45a q45c (g := (mkF m 143 #[.val (.int p1), .val (.int p2), .val (.int p3), .val (.int p4), .val (.int (1 : Int32)), .val (.int (0 : Int32)), .val (.ref sp), .val (.ref mo), .val (.int (22 : Int32)), .val (.int (21 : Int32)), .val (.int n1), .val (.int n2), .val (.ref b32), .val (.ref b36), .val (.int (0 : Int32)), .unset, .unset, .unset] [(.ref b32), (.ref b36)])) rfl (by rw [hml]; rfl) (Steps.refl _) (argsL := [(.ref b32)]) (rest := []) (lenOf own_pd3 rfl) rfl (by show 2 * 0 + _ ≤ _; exact Nat.le_of_eq rfl) (hb hby at_143) (fun _ _ => ⟨rfl, e44, (by decide : 2 + 0 ≤ _), (by decide : 4 + 0 ≤ _)⟩)
          dsimp only [Pt.U, Pt.locs, Pt.cells, Pt.slots] at X45 l45 y45 z45 st45 hQ45
          subst l45 y45 z45
          obtain ⟨rfl, N45q, e45⟩ := hQ45
          have N45 := Fr.app N44 N45q
          refine own_go ?_ (fun tq kt => st45.trans kt)
          show own_Fin _ _ _ _ (T45.setTop (mkF m 146 #[.val (.int p1), .val (.int p2), .val (.int p3), .val (.int p4), .val (.int (1 : Int32)), .val (.int (0 : Int32)), .val (.ref sp), .val (.ref mo), .val (.int (22 : Int32)), .val (.int (21 : Int32)), .val (.int n1), .val (.int n2), .val (.ref b32), .val (.ref b36), .val (.int (0 : Int32)), .unset, .unset, .unset] [(.int (0 : Int32))]))
          refine own_go ?_ (fun tq kt => XS.istore X45.here hx rfl (hb hby at_146) rfl (l' := #[.val (.int p1), .val (.int p2), .val (.int p3), .val (.int p4), .val (.int (1 : Int32)), .val (.int (0 : Int32)), .val (.ref sp), .val (.ref mo), .val (.int (22 : Int32)), .val (.int (21 : Int32)), .val (.int n1), .val (.int n2), .val (.ref b32), .val (.ref b36), .val (.int (0 : Int32)), .val (.int (0 : Int32)), .unset, .unset]) rfl kt)
          show own_Fin _ _ _ _ (T45.setTop (mkF m 148 #[.val (.int p1), .val (.int p2), .val (.int p3), .val (.int p4), .val (.int (1 : Int32)), .val (.int (0 : Int32)), .val (.ref sp), .val (.ref mo), .val (.int (22 : Int32)), .val (.int (21 : Int32)), .val (.int n1), .val (.int n2), .val (.ref b32), .val (.ref b36), .val (.int (0 : Int32)), .val (.int (0 : Int32)), .unset, .unset] []))
          refine own_go ?_ (fun tq kt => XS.iload X45.here hx rfl (hb hby at_148) rfl kt)
          show own_Fin _ _ _ _ (T45.setTop (mkF m 150 #[.val (.int p1), .val (.int p2), .val (.int p3), .val (.int p4), .val (.int (1 : Int32)), .val (.int (0 : Int32)), .val (.ref sp), .val (.ref mo), .val (.int (22 : Int32)), .val (.int (21 : Int32)), .val (.int n1), .val (.int n2), .val (.ref b32), .val (.ref b36), .val (.int (0 : Int32)), .val (.int (0 : Int32)), .unset, .unset] [(.int n1)]))
          refine own_go ?_ (fun tq kt => XS.iload X45.here hx rfl (hb hby at_150) rfl kt)
          show own_Fin _ _ _ _ (T45.setTop (mkF m 152 #[.val (.int p1), .val (.int p2), .val (.int p3), .val (.int p4), .val (.int (1 : Int32)), .val (.int (0 : Int32)), .val (.ref sp), .val (.ref mo), .val (.int (22 : Int32)), .val (.int (21 : Int32)), .val (.int n1), .val (.int n2), .val (.ref b32), .val (.ref b36), .val (.int (0 : Int32)), .val (.int (0 : Int32)), .unset, .unset] [(.int n2), (.int n1)]))
          refine own_go ?_ (fun tq kt => XS.isub X45.here hx rfl (hb hby at_152) rfl kt)
          show own_Fin _ _ _ _ (T45.setTop (mkF m 153 #[.val (.int p1), .val (.int p2), .val (.int p3), .val (.int p4), .val (.int (1 : Int32)), .val (.int (0 : Int32)), .val (.ref sp), .val (.ref mo), .val (.int (22 : Int32)), .val (.int (21 : Int32)), .val (.int n1), .val (.int n2), .val (.ref b32), .val (.ref b36), .val (.int (0 : Int32)), .val (.int (0 : Int32)), .unset, .unset] [(.int (n1 - n2))]))
          refine own_go ?_ (fun tq kt => XS.iconst X45.here hx rfl (hb hby at_153) kt)
          show own_Fin _ _ _ _ (T45.setTop (mkF m 154 #[.val (.int p1), .val (.int p2), .val (.int p3), .val (.int p4), .val (.int (1 : Int32)), .val (.int (0 : Int32)), .val (.ref sp), .val (.ref mo), .val (.int (22 : Int32)), .val (.int (21 : Int32)), .val (.int n1), .val (.int n2), .val (.ref b32), .val (.ref b36), .val (.int (0 : Int32)), .val (.int (0 : Int32)), .unset, .unset] [(.int (1 : Int32)), (.int (n1 - n2))]))
          refine own_go ?_ (fun tq kt => XS.icmpYes X45.here hx rfl (pc0 := 154) (pc' := 161) rfl (hb hby at_154) rfl (tlt ((hs.2 h21) : (n1 - n2) < (1 : Int32))).1 (by decide) (by decide) kt)
          show own_Fin _ _ _ _ (T45.setTop (mkF m 161 #[.val (.int p1), .val (.int p2), .val (.int p3), .val (.int p4), .val (.int (1 : Int32)), .val (.int (0 : Int32)), .val (.ref sp), .val (.ref mo), .val (.int (22 : Int32)), .val (.int (21 : Int32)), .val (.int n1), .val (.int n2), .val (.ref b32), .val (.ref b36), .val (.int (0 : Int32)), .val (.int (0 : Int32)), .unset, .unset] []))
          refine own_go ?_ (fun tq kt => XS.iconst X45.here hx rfl (hb hby at_161) kt)
          show own_Fin _ _ _ _ (T45.setTop (mkF m 162 #[.val (.int p1), .val (.int p2), .val (.int p3), .val (.int p4), .val (.int (1 : Int32)), .val (.int (0 : Int32)), .val (.ref sp), .val (.ref mo), .val (.int (22 : Int32)), .val (.int (21 : Int32)), .val (.int n1), .val (.int n2), .val (.ref b32), .val (.ref b36), .val (.int (0 : Int32)), .val (.int (0 : Int32)), .unset, .unset] [(.int (0 : Int32))]))
          refine own_go ?_ (fun tq kt => XS.istore X45.here hx rfl (hb hby at_162) rfl (l' := #[.val (.int p1), .val (.int p2), .val (.int p3), .val (.int p4), .val (.int (1 : Int32)), .val (.int (0 : Int32)), .val (.ref sp), .val (.ref mo), .val (.int (22 : Int32)), .val (.int (21 : Int32)), .val (.int n1), .val (.int n2), .val (.ref b32), .val (.ref b36), .val (.int (0 : Int32)), .val (.int (0 : Int32)), .val (.int (0 : Int32)), .unset]) rfl kt)
          show own_Fin _ _ _ _ (T45.setTop (mkF m 164 #[.val (.int p1), .val (.int p2), .val (.int p3), .val (.int p4), .val (.int (1 : Int32)), .val (.int (0 : Int32)), .val (.ref sp), .val (.ref mo), .val (.int (22 : Int32)), .val (.int (21 : Int32)), .val (.int n1), .val (.int n2), .val (.ref b32), .val (.ref b36), .val (.int (0 : Int32)), .val (.int (0 : Int32)), .val (.int (0 : Int32)), .unset] []))
          refine own_go ?_ (fun tq kt => XS.iload X45.here hx rfl (hb hby at_164) rfl kt)
          show own_Fin _ _ _ _ (T45.setTop (mkF m 166 #[.val (.int p1), .val (.int p2), .val (.int p3), .val (.int p4), .val (.int (1 : Int32)), .val (.int (0 : Int32)), .val (.ref sp), .val (.ref mo), .val (.int (22 : Int32)), .val (.int (21 : Int32)), .val (.int n1), .val (.int n2), .val (.ref b32), .val (.ref b36), .val (.int (0 : Int32)), .val (.int (0 : Int32)), .val (.int (0 : Int32)), .unset] [(.int n2)]))
          refine own_go ?_ (fun tq kt => XS.iload X45.here hx rfl (hb hby at_166) rfl kt)
          show own_Fin _ _ _ _ (T45.setTop (mkF m 168 #[.val (.int p1), .val (.int p2), .val (.int p3), .val (.int p4), .val (.int (1 : Int32)), .val (.int (0 : Int32)), .val (.ref sp), .val (.ref mo), .val (.int (22 : Int32)), .val (.int (21 : Int32)), .val (.int n1), .val (.int n2), .val (.ref b32), .val (.ref b36), .val (.int (0 : Int32)), .val (.int (0 : Int32)), .val (.int (0 : Int32)), .unset] [(.int n1), (.int n2)]))
          refine own_go ?_ (fun tq kt => XS.isub X45.here hx rfl (hb hby at_168) rfl kt)
          show own_Fin _ _ _ _ (T45.setTop (mkF m 169 #[.val (.int p1), .val (.int p2), .val (.int p3), .val (.int p4), .val (.int (1 : Int32)), .val (.int (0 : Int32)), .val (.ref sp), .val (.ref mo), .val (.int (22 : Int32)), .val (.int (21 : Int32)), .val (.int n1), .val (.int n2), .val (.ref b32), .val (.ref b36), .val (.int (0 : Int32)), .val (.int (0 : Int32)), .val (.int (0 : Int32)), .unset] [(.int (n2 - n1))]))
          refine own_go ?_ (fun tq kt => XS.iconst X45.here hx rfl (hb hby at_169) kt)
          show own_Fin _ _ _ _ (T45.setTop (mkF m 170 #[.val (.int p1), .val (.int p2), .val (.int p3), .val (.int p4), .val (.int (1 : Int32)), .val (.int (0 : Int32)), .val (.ref sp), .val (.ref mo), .val (.int (22 : Int32)), .val (.int (21 : Int32)), .val (.int n1), .val (.int n2), .val (.ref b32), .val (.ref b36), .val (.int (0 : Int32)), .val (.int (0 : Int32)), .val (.int (0 : Int32)), .unset] [(.int (1 : Int32)), (.int (n2 - n1))]))
          refine own_go ?_ (fun tq kt => XS.icmpYes X45.here hx rfl (pc0 := 170) (pc' := 177) rfl (hb hby at_170) rfl (tlt ((hs'.2 h12) : (n2 - n1) < (1 : Int32))).1 (by decide) (by decide) kt)
          show own_Fin _ _ _ _ (T45.setTop (mkF m 177 #[.val (.int p1), .val (.int p2), .val (.int p3), .val (.int p4), .val (.int (1 : Int32)), .val (.int (0 : Int32)), .val (.ref sp), .val (.ref mo), .val (.int (22 : Int32)), .val (.int (21 : Int32)), .val (.int n1), .val (.int n2), .val (.ref b32), .val (.ref b36), .val (.int (0 : Int32)), .val (.int (0 : Int32)), .val (.int (0 : Int32)), .unset] []))
          refine own_go ?_ (fun tq kt => XS.iconst X45.here hx rfl (hb hby at_177) kt)
          show own_Fin _ _ _ _ (T45.setTop (mkF m 178 #[.val (.int p1), .val (.int p2), .val (.int p3), .val (.int p4), .val (.int (1 : Int32)), .val (.int (0 : Int32)), .val (.ref sp), .val (.ref mo), .val (.int (22 : Int32)), .val (.int (21 : Int32)), .val (.int n1), .val (.int n2), .val (.ref b32), .val (.ref b36), .val (.int (0 : Int32)), .val (.int (0 : Int32)), .val (.int (0 : Int32)), .unset] [(.int (0 : Int32))]))
          refine own_go ?_ (fun tq kt => XS.istore X45.here hx rfl (hb hby at_178) rfl (l' := #[.val (.int p1), .val (.int p2), .val (.int p3), .val (.int p4), .val (.int (1 : Int32)), .val (.int (0 : Int32)), .val (.ref sp), .val (.ref mo), .val (.int (22 : Int32)), .val (.int (21 : Int32)), .val (.int n1), .val (.int n2), .val (.ref b32), .val (.ref b36), .val (.int (0 : Int32)), .val (.int (0 : Int32)), .val (.int (0 : Int32)), .val (.int (0 : Int32))]) rfl kt)
          show own_Fin _ _ _ _ (T45.setTop (mkF m 180 #[.val (.int p1), .val (.int p2), .val (.int p3), .val (.int p4), .val (.int (1 : Int32)), .val (.int (0 : Int32)), .val (.ref sp), .val (.ref mo), .val (.int (22 : Int32)), .val (.int (21 : Int32)), .val (.int n1), .val (.int n2), .val (.ref b32), .val (.ref b36), .val (.int (0 : Int32)), .val (.int (0 : Int32)), .val (.int (0 : Int32)), .val (.int (0 : Int32))] []))
          refine own_go ?_ (fun tq kt => XS.iload X45.here hx rfl (hb hby at_180) rfl kt)
          show own_Fin _ _ _ _ (T45.setTop (mkF m 182 #[.val (.int p1), .val (.int p2), .val (.int p3), .val (.int p4), .val (.int (1 : Int32)), .val (.int (0 : Int32)), .val (.ref sp), .val (.ref mo), .val (.int (22 : Int32)), .val (.int (21 : Int32)), .val (.int n1), .val (.int n2), .val (.ref b32), .val (.ref b36), .val (.int (0 : Int32)), .val (.int (0 : Int32)), .val (.int (0 : Int32)), .val (.int (0 : Int32))] [(.int (0 : Int32))]))
          refine own_go ?_ (fun tq kt => XS.iload X45.here hx rfl (hb hby at_182) rfl kt)
          show own_Fin _ _ _ _ (T45.setTop (mkF m 184 #[.val (.int p1), .val (.int p2), .val (.int p3), .val (.int p4), .val (.int (1 : Int32)), .val (.int (0 : Int32)), .val (.ref sp), .val (.ref mo), .val (.int (22 : Int32)), .val (.int (21 : Int32)), .val (.int n1), .val (.int n2), .val (.ref b32), .val (.ref b36), .val (.int (0 : Int32)), .val (.int (0 : Int32)), .val (.int (0 : Int32)), .val (.int (0 : Int32))] [(.int (0 : Int32)), (.int (0 : Int32))]))
          refine own_go ?_ (fun tq kt => XS.icmpNo X45.here hx rfl (hb hby at_184) rfl (teq (rfl : (0 : Int32) = (0 : Int32))).2 kt)
          show own_Fin _ _ _ _ (T45.setTop (mkF m 187 #[.val (.int p1), .val (.int p2), .val (.int p3), .val (.int p4), .val (.int (1 : Int32)), .val (.int (0 : Int32)), .val (.ref sp), .val (.ref mo), .val (.int (22 : Int32)), .val (.int (21 : Int32)), .val (.int n1), .val (.int n2), .val (.ref b32), .val (.ref b36), .val (.int (0 : Int32)), .val (.int (0 : Int32)), .val (.int (0 : Int32)), .val (.int (0 : Int32))] []))
          refine own_go ?_ (fun tq kt => XS.iload X45.here hx rfl (hb hby at_187) rfl kt)
          show own_Fin _ _ _ _ (T45.setTop (mkF m 189 #[.val (.int p1), .val (.int p2), .val (.int p3), .val (.int p4), .val (.int (1 : Int32)), .val (.int (0 : Int32)), .val (.ref sp), .val (.ref mo), .val (.int (22 : Int32)), .val (.int (21 : Int32)), .val (.int n1), .val (.int n2), .val (.ref b32), .val (.ref b36), .val (.int (0 : Int32)), .val (.int (0 : Int32)), .val (.int (0 : Int32)), .val (.int (0 : Int32))] [(.int (0 : Int32))]))
          refine own_go ?_ (fun tq kt => XS.iload X45.here hx rfl (hb hby at_189) rfl kt)
          show own_Fin _ _ _ _ (T45.setTop (mkF m 191 #[.val (.int p1), .val (.int p2), .val (.int p3), .val (.int p4), .val (.int (1 : Int32)), .val (.int (0 : Int32)), .val (.ref sp), .val (.ref mo), .val (.int (22 : Int32)), .val (.int (21 : Int32)), .val (.int n1), .val (.int n2), .val (.ref b32), .val (.ref b36), .val (.int (0 : Int32)), .val (.int (0 : Int32)), .val (.int (0 : Int32)), .val (.int (0 : Int32))] [(.int (0 : Int32)), (.int (0 : Int32))]))
          refine own_go ?_ (fun tq kt => XS.icmpNo X45.here hx rfl (hb hby at_191) rfl (teq (rfl : (0 : Int32) = (0 : Int32))).2 kt)
          show own_Fin _ _ _ _ (T45.setTop (mkF m 194 #[.val (.int p1), .val (.int p2), .val (.int p3), .val (.int p4), .val (.int (1 : Int32)), .val (.int (0 : Int32)), .val (.ref sp), .val (.ref mo), .val (.int (22 : Int32)), .val (.int (21 : Int32)), .val (.int n1), .val (.int n2), .val (.ref b32), .val (.ref b36), .val (.int (0 : Int32)), .val (.int (0 : Int32)), .val (.int (0 : Int32)), .val (.int (0 : Int32))] []))
          refine own_go ?_ (fun tq kt => XS.iconst X45.here hx rfl (hb hby at_194) kt)
          show own_Fin _ _ _ _ (T45.setTop (mkF m 195 #[.val (.int p1), .val (.int p2), .val (.int p3), .val (.int p4), .val (.int (1 : Int32)), .val (.int (0 : Int32)), .val (.ref sp), .val (.ref mo), .val (.int (22 : Int32)), .val (.int (21 : Int32)), .val (.int n1), .val (.int n2), .val (.ref b32), .val (.ref b36), .val (.int (0 : Int32)), .val (.int (0 : Int32)), .val (.int (0 : Int32)), .val (.int (0 : Int32))] [(.int (1 : Int32))]))
          refine own_go ?_ (fun tq kt => XS.goto X45.here hx rfl (pc0 := 195) (pc' := 199) rfl (hb hby at_195) (by decide) (by decide) kt)
          show own_Fin _ _ _ _ (T45.setTop (mkF m 199 #[.val (.int p1), .val (.int p2), .val (.int p3), .val (.int p4), .val (.int (1 : Int32)), .val (.int (0 : Int32)), .val (.ref sp), .val (.ref mo), .val (.int (22 : Int32)), .val (.int (21 : Int32)), .val (.int n1), .val (.int n2), .val (.ref b32), .val (.ref b36), .val (.int (0 : Int32)), .val (.int (0 : Int32)), .val (.int (0 : Int32)), .val (.int (0 : Int32))] [(.int (1 : Int32))]))
          refine own_retN X45 hx (t := .boolean) Bd.returns (by simp) (hb hby at_199) hlk ?_ (by decide) (by decide)
          exact ⟨rfl, N45⟩
  · refine own_go ?_ (fun tq kt => XS.ifYes X0.here hx rfl (pc0 := 3) (pc' := 10) rfl (hb hby at_3) rfl ((if0 _ _).trans (feq (hc3_12 : ¬ ((p1 &&& (1 : Int32)) = (0 : Int32)))).2) (by decide) (by decide) kt)
    show own_Fin _ _ _ _ (s₁.setTop (mkF m 10 #[.val (.int p1), .val (.int p2), .val (.int p3), .val (.int p4), .unset, .unset, .unset, .unset, .unset, .unset, .unset, .unset, .unset, .unset, .unset, .unset, .unset, .unset] []))
    refine own_go ?_ (fun tq kt => XS.iconst X0.here hx rfl (hb hby at_10) kt)
    show own_Fin _ _ _ _ (s₁.setTop (mkF m 11 #[.val (.int p1), .val (.int p2), .val (.int p3), .val (.int p4), .unset, .unset, .unset, .unset, .unset, .unset, .unset, .unset, .unset, .unset, .unset, .unset, .unset, .unset] [(.int (0 : Int32))]))
    refine own_go ?_ (fun tq kt => XS.istore X0.here hx rfl (hb hby at_11) rfl (l' := #[.val (.int p1), .val (.int p2), .val (.int p3), .val (.int p4), .val (.int (0 : Int32)), .unset, .unset, .unset, .unset, .unset, .unset, .unset, .unset, .unset, .unset, .unset, .unset, .unset]) rfl kt)
    show own_Fin _ _ _ _ (s₁.setTop (mkF m 13 #[.val (.int p1), .val (.int p2), .val (.int p3), .val (.int p4), .val (.int (0 : Int32)), .unset, .unset, .unset, .unset, .unset, .unset, .unset, .unset, .unset, .unset, .unset, .unset, .unset] []))
    refine own_go ?_ (fun tq kt => XS.iloadN X0.here hx rfl (hb hby at_13) rfl kt)
    show own_Fin _ _ _ _ (s₁.setTop (mkF m 14 #[.val (.int p1), .val (.int p2), .val (.int p3), .val (.int p4), .val (.int (0 : Int32)), .unset, .unset, .unset, .unset, .unset, .unset, .unset, .unset, .unset, .unset, .unset, .unset, .unset] [(.int p3)]))
    refine own_go ?_ (fun tq kt => XS.iconst X0.here hx rfl (hb hby at_14) kt)
    show own_Fin _ _ _ _ (s₁.setTop (mkF m 15 #[.val (.int p1), .val (.int p2), .val (.int p3), .val (.int p4), .val (.int (0 : Int32)), .unset, .unset, .unset, .unset, .unset, .unset, .unset, .unset, .unset, .unset, .unset, .unset, .unset] [(.int (1 : Int32)), (.int p3)]))
    refine own_go ?_ (fun tq kt => XS.iand X0.here hx rfl (hb hby at_15) rfl kt)
    show own_Fin _ _ _ _ (s₁.setTop (mkF m 16 #[.val (.int p1), .val (.int p2), .val (.int p3), .val (.int p4), .val (.int (0 : Int32)), .unset, .unset, .unset, .unset, .unset, .unset, .unset, .unset, .unset, .unset, .unset, .unset, .unset] [(.int (p3 &&& (1 : Int32)))]))
    by_cases hc16_46 : (p3 &&& (1 : Int32)) = (0 : Int32)
    · refine own_go ?_ (fun tq kt => XS.ifNo X0.here hx rfl (hb hby at_16) rfl ((if0 _ _).trans (teq (hc16_46 : (p3 &&& (1 : Int32)) = (0 : Int32))).2) kt)
      show own_Fin _ _ _ _ (s₁.setTop (mkF m 19 #[.val (.int p1), .val (.int p2), .val (.int p3), .val (.int p4), .val (.int (0 : Int32)), .unset, .unset, .unset, .unset, .unset, .unset, .unset, .unset, .unset, .unset, .unset, .unset, .unset] []))
      refine own_go ?_ (fun tq kt => XS.iconst X0.here hx rfl (hb hby at_19) kt)
      show own_Fin _ _ _ _ (s₁.setTop (mkF m 20 #[.val (.int p1), .val (.int p2), .val (.int p3), .val (.int p4), .val (.int (0 : Int32)), .unset, .unset, .unset, .unset, .unset, .unset, .unset, .unset, .unset, .unset, .unset, .unset, .unset] [(.int (1 : Int32))]))
      refine own_go ?_ (fun tq kt => XS.goto X0.here hx rfl (pc0 := 20) (pc' := 24) rfl (hb hby at_20) (by decide) (by decide) kt)
      show own_Fin _ _ _ _ (s₁.setTop (mkF m 24 #[.val (.int p1), .val (.int p2), .val (.int p3), .val (.int p4), .val (.int (0 : Int32)), .unset, .unset, .unset, .unset, .unset, .unset, .unset, .unset, .unset, .unset, .unset, .unset, .unset] [(.int (1 : Int32))]))
      refine own_go ?_ (fun tq kt => XS.istore X0.here hx rfl (hb hby at_24) rfl (l' := #[.val (.int p1), .val (.int p2), .val (.int p3), .val (.int p4), .val (.int (0 : Int32)), .val (.int (1 : Int32)), .unset, .unset, .unset, .unset, .unset, .unset, .unset, .unset, .unset, .unset, .unset, .unset]) rfl kt)
      show own_Fin _ _ _ _ (s₁.setTop (mkF m 26 #[.val (.int p1), .val (.int p2), .val (.int p3), .val (.int p4), .val (.int (0 : Int32)), .val (.int (1 : Int32)), .unset, .unset, .unset, .unset, .unset, .unset, .unset, .unset, .unset, .unset, .unset, .unset] []))
      refine own_go ?_ (fun tq kt => XS.iload X0.here hx rfl (hb hby at_26) rfl kt)
      show own_Fin _ _ _ _ (s₁.setTop (mkF m 28 #[.val (.int p1), .val (.int p2), .val (.int p3), .val (.int p4), .val (.int (0 : Int32)), .val (.int (1 : Int32)), .unset, .unset, .unset, .unset, .unset, .unset, .unset, .unset, .unset, .unset, .unset, .unset] [(.int (0 : Int32))]))
      refine own_go ?_ (fun tq kt => XS.ifYes X0.here hx rfl (pc0 := 28) (pc' := 37) rfl (hb hby at_28) rfl ((if0 _ _).trans (teq (rfl : (0 : Int32) = (0 : Int32))).1) (by decide) (by decide) kt)
      show own_Fin _ _ _ _ (s₁.setTop (mkF m 37 #[.val (.int p1), .val (.int p2), .val (.int p3), .val (.int p4), .val (.int (0 : Int32)), .val (.int (1 : Int32)), .unset, .unset, .unset, .unset, .unset, .unset, .unset, .unset, .unset, .unset, .unset, .unset] []))
      obtain ⟨T47, X47, e47, st47⟩ := getS2 X0 hx hZ hown (host := "") (Or.inl (hw _ (List.mem_of_getElem? (i := 41) rfl))) Via.refl e0 (mSt.ext O0.2) (g := (mkF m 37 #[.val (.int p1), .val (.int p2), .val (.int p3), .val (.int p4), .val (.int (0 : Int32)), .val (.int (1 : Int32)), .unset, .unset, .unset, .unset, .unset, .unset, .unset, .unset, .unset, .unset, .unset, .unset] [])) rfl (hb hby at_37)
      refine own_go ?_ (fun tq kt => st47 _ kt)
      show own_Fin _ _ _ _ (T47.setTop (mkF m 40 #[.val (.int p1), .val (.int p2), .val (.int p3), .val (.int p4), .val (.int (0 : Int32)), .val (.int (1 : Int32)), .unset, .unset, .unset, .unset, .unset, .unset, .unset, .unset, .unset, .unset, .unset, .unset] [(.ref mo)]))
      refine own_go ?_ (fun tq kt => XS.astore X47.here hx rfl (hb hby at_40) rfl rfl (l' := #[.val (.int p1), .val (.int p2), .val (.int p3), .val (.int p4), .val (.int (0 : Int32)), .val (.int (1 : Int32)), .val (.ref mo), .unset, .unset, .unset, .unset, .unset, .unset, .unset, .unset, .unset, .unset, .unset]) rfl kt)
      show own_Fin _ _ _ _ (T47.setTop (mkF m 42 #[.val (.int p1), .val (.int p2), .val (.int p3), .val (.int p4), .val (.int (0 : Int32)), .val (.int (1 : Int32)), .val (.ref mo), .unset, .unset, .unset, .unset, .unset, .unset, .unset, .unset, .unset, .unset, .unset] []))
      refine own_go ?_ (fun tq kt => XS.iload X47.here hx rfl (hb hby at_42) rfl kt)
      show own_Fin _ _ _ _ (T47.setTop (mkF m 44 #[.val (.int p1), .val (.int p2), .val (.int p3), .val (.int p4), .val (.int (0 : Int32)), .val (.int (1 : Int32)), .val (.ref mo), .unset, .unset, .unset, .unset, .unset, .unset, .unset, .unset, .unset, .unset, .unset] [(.int (1 : Int32))]))
      refine own_go ?_ (fun tq kt => XS.ifNo X47.here hx rfl (hb hby at_44) rfl ((if0 _ _).trans (feq ((by decide) : ¬ ((1 : Int32) = (0 : Int32)))).1) kt)
      show own_Fin _ _ _ _ (T47.setTop (mkF m 47 #[.val (.int p1), .val (.int p2), .val (.int p3), .val (.int p4), .val (.int (0 : Int32)), .val (.int (1 : Int32)), .val (.ref mo), .unset, .unset, .unset, .unset, .unset, .unset, .unset, .unset, .unset, .unset, .unset] []))
      obtain ⟨T48, X48, e48, st48⟩ := getS2 X47 hx hZ hown (host := "") (Or.inl (hw _ (List.mem_of_getElem? (i := 0) rfl))) Via.refl e47 (sSt.ext O0.2) (g := (mkF m 47 #[.val (.int p1), .val (.int p2), .val (.int p3), .val (.int p4), .val (.int (0 : Int32)), .val (.int (1 : Int32)), .val (.ref mo), .unset, .unset, .unset, .unset, .unset, .unset, .unset, .unset, .unset, .unset, .unset] [])) rfl (hb hby at_47)
      refine own_go ?_ (fun tq kt => st48 _ kt)
      show own_Fin _ _ _ _ (T48.setTop (mkF m 50 #[.val (.int p1), .val (.int p2), .val (.int p3), .val (.int p4), .val (.int (0 : Int32)), .val (.int (1 : Int32)), .val (.ref mo), .unset, .unset, .unset, .unset, .unset, .unset, .unset, .unset, .unset, .unset, .unset] [(.ref sp)]))
      refine own_go ?_ (fun tq kt => XS.goto X48.here hx rfl (pc0 := 50) (pc' := 56) rfl (hb hby at_50) (by decide) (by decide) kt)
      show own_Fin _ _ _ _ (T48.setTop (mkF m 56 #[.val (.int p1), .val (.int p2), .val (.int p3), .val (.int p4), .val (.int (0 : Int32)), .val (.int (1 : Int32)), .val (.ref mo), .unset, .unset, .unset, .unset, .unset, .unset, .unset, .unset, .unset, .unset, .unset] [(.ref sp)]))
      refine own_go ?_ (fun tq kt => XS.astore X48.here hx rfl (hb hby at_56) rfl rfl (l' := #[.val (.int p1), .val (.int p2), .val (.int p3), .val (.int p4), .val (.int (0 : Int32)), .val (.int (1 : Int32)), .val (.ref mo), .val (.ref sp), .unset, .unset, .unset, .unset, .unset, .unset, .unset, .unset, .unset, .unset]) rfl kt)
      show own_Fin _ _ _ _ (T48.setTop (mkF m 58 #[.val (.int p1), .val (.int p2), .val (.int p3), .val (.int p4), .val (.int (0 : Int32)), .val (.int (1 : Int32)), .val (.ref mo), .val (.ref sp), .unset, .unset, .unset, .unset, .unset, .unset, .unset, .unset, .unset, .unset] []))
      refine own_go ?_ (fun tq kt => XS.iload X48.here hx rfl (hb hby at_58) rfl kt)
      show own_Fin _ _ _ _ (T48.setTop (mkF m 60 #[.val (.int p1), .val (.int p2), .val (.int p3), .val (.int p4), .val (.int (0 : Int32)), .val (.int (1 : Int32)), .val (.ref mo), .val (.ref sp), .unset, .unset, .unset, .unset, .unset, .unset, .unset, .unset, .unset, .unset] [(.int (0 : Int32))]))
      refine own_go ?_ (fun tq kt => XS.ifYes X48.here hx rfl (pc0 := 60) (pc' := 68) rfl (hb hby at_60) rfl ((if0 _ _).trans (teq (rfl : (0 : Int32) = (0 : Int32))).1) (by decide) (by decide) kt)
      show own_Fin _ _ _ _ (T48.setTop (mkF m 68 #[.val (.int p1), .val (.int p2), .val (.int p3), .val (.int p4), .val (.int (0 : Int32)), .val (.int (1 : Int32)), .val (.ref mo), .val (.ref sp), .unset, .unset, .unset, .unset, .unset, .unset, .unset, .unset, .unset, .unset] []))
      refine own_go ?_ (fun tq kt => XS.bipush X48.here hx rfl (hb hby at_68) kt)
      show own_Fin _ _ _ _ (T48.setTop (mkF m 70 #[.val (.int p1), .val (.int p2), .val (.int p3), .val (.int p4), .val (.int (0 : Int32)), .val (.int (1 : Int32)), .val (.ref mo), .val (.ref sp), .unset, .unset, .unset, .unset, .unset, .unset, .unset, .unset, .unset, .unset] [(.int (21 : Int32))]))
      refine own_go ?_ (fun tq kt => XS.istore X48.here hx rfl (hb hby at_70) rfl (l' := #[.val (.int p1), .val (.int p2), .val (.int p3), .val (.int p4), .val (.int (0 : Int32)), .val (.int (1 : Int32)), .val (.ref mo), .val (.ref sp), .val (.int (21 : Int32)), .unset, .unset, .unset, .unset, .unset, .unset, .unset, .unset, .unset]) rfl kt)
      show own_Fin _ _ _ _ (T48.setTop (mkF m 72 #[.val (.int p1), .val (.int p2), .val (.int p3), .val (.int p4), .val (.int (0 : Int32)), .val (.int (1 : Int32)), .val (.ref mo), .val (.ref sp), .val (.int (21 : Int32)), .unset, .unset, .unset, .unset, .unset, .unset, .unset, .unset, .unset] []))
      refine own_go ?_ (fun tq kt => XS.iload X48.here hx rfl (hb hby at_72) rfl kt)
      show own_Fin _ _ _ _ (T48.setTop (mkF m 74 #[.val (.int p1), .val (.int p2), .val (.int p3), .val (.int p4), .val (.int (0 : Int32)), .val (.int (1 : Int32)), .val (.ref mo), .val (.ref sp), .val (.int (21 : Int32)), .unset, .unset, .unset, .unset, .unset, .unset, .unset, .unset, .unset] [(.int (1 : Int32))]))
      refine own_go ?_ (fun tq kt => XS.ifNo X48.here hx rfl (hb hby at_74) rfl ((if0 _ _).trans (feq ((by decide) : ¬ ((1 : Int32) = (0 : Int32)))).1) kt)
      show own_Fin _ _ _ _ (T48.setTop (mkF m 77 #[.val (.int p1), .val (.int p2), .val (.int p3), .val (.int p4), .val (.int (0 : Int32)), .val (.int (1 : Int32)), .val (.ref mo), .val (.ref sp), .val (.int (21 : Int32)), .unset, .unset, .unset, .unset, .unset, .unset, .unset, .unset, .unset] []))
      refine own_go ?_ (fun tq kt => XS.bipush X48.here hx rfl (hb hby at_77) kt)
      show own_Fin _ _ _ _ (T48.setTop (mkF m 79 #[.val (.int p1), .val (.int p2), .val (.int p3), .val (.int p4), .val (.int (0 : Int32)), .val (.int (1 : Int32)), .val (.ref mo), .val (.ref sp), .val (.int (21 : Int32)), .unset, .unset, .unset, .unset, .unset, .unset, .unset, .unset, .unset] [(.int (22 : Int32))]))
      refine own_go ?_ (fun tq kt => XS.goto X48.here hx rfl (pc0 := 79) (pc' := 84) rfl (hb hby at_79) (by decide) (by decide) kt)
      show own_Fin _ _ _ _ (T48.setTop (mkF m 84 #[.val (.int p1), .val (.int p2), .val (.int p3), .val (.int p4), .val (.int (0 : Int32)), .val (.int (1 : Int32)), .val (.ref mo), .val (.ref sp), .val (.int (21 : Int32)), .unset, .unset, .unset, .unset, .unset, .unset, .unset, .unset, .unset] [(.int (22 : Int32))]))
      refine own_go ?_ (fun tq kt => XS.istore X48.here hx rfl (hb hby at_84) rfl (l' := #[.val (.int p1), .val (.int p2), .val (.int p3), .val (.int p4), .val (.int (0 : Int32)), .val (.int (1 : Int32)), .val (.ref mo), .val (.ref sp), .val (.int (21 : Int32)), .val (.int (22 : Int32)), .unset, .unset, .unset, .unset, .unset, .unset, .unset, .unset]) rfl kt)
      show own_Fin _ _ _ _ (T48.setTop (mkF m 86 #[.val (.int p1), .val (.int p2), .val (.int p3), .val (.int p4), .val (.int (0 : Int32)), .val (.int (1 : Int32)), .val (.ref mo), .val (.ref sp), .val (.int (21 : Int32)), .val (.int (22 : Int32)), .unset, .unset, .unset, .unset, .unset, .unset, .unset, .unset] []))
      refine own_go ?_ (fun tq kt => XS.iloadN X48.here hx rfl (hb hby at_86) rfl kt)
      show own_Fin _ _ _ _ (T48.setTop (mkF m 87 #[.val (.int p1), .val (.int p2), .val (.int p3), .val (.int p4), .val (.int (0 : Int32)), .val (.int (1 : Int32)), .val (.ref mo), .val (.ref sp), .val (.int (21 : Int32)), .val (.int (22 : Int32)), .unset, .unset, .unset, .unset, .unset, .unset, .unset, .unset] [(.int p2)]))
      refine own_go ?_ (fun tq kt => X48.ldcInt hx hown (mvT hZ (hw _ (List.mem_of_getElem? (i := 3) rfl))) (g := (mkF m 87 #[.val (.int p1), .val (.int p2), .val (.int p3), .val (.int p4), .val (.int (0 : Int32)), .val (.int (1 : Int32)), .val (.ref mo), .val (.ref sp), .val (.int (21 : Int32)), .val (.int (22 : Int32)), .unset, .unset, .unset, .unset, .unset, .unset, .unset, .unset] [(.int p2)])) rfl (hb hby at_87) _ kt)
      show own_Fin _ _ _ _ (T48.setTop (mkF m 89 #[.val (.int p1), .val (.int p2), .val (.int p3), .val (.int p4), .val (.int (0 : Int32)), .val (.int (1 : Int32)), .val (.ref mo), .val (.ref sp), .val (.int (21 : Int32)), .val (.int (22 : Int32)), .unset, .unset, .unset, .unset, .unset, .unset, .unset, .unset] [(.int (2147483647 : Int32)), (.int p2)]))
      refine own_go ?_ (fun tq kt => XS.iand X48.here hx rfl (hb hby at_89) rfl kt)
      show own_Fin _ _ _ _ (T48.setTop (mkF m 90 #[.val (.int p1), .val (.int p2), .val (.int p3), .val (.int p4), .val (.int (0 : Int32)), .val (.int (1 : Int32)), .val (.ref mo), .val (.ref sp), .val (.int (21 : Int32)), .val (.int (22 : Int32)), .unset, .unset, .unset, .unset, .unset, .unset, .unset, .unset] [(.int (p2 &&& (2147483647 : Int32)))]))
      refine own_go ?_ (fun tq kt => XS.iload X48.here hx rfl (hb hby at_90) rfl kt)
      show own_Fin _ _ _ _ (T48.setTop (mkF m 92 #[.val (.int p1), .val (.int p2), .val (.int p3), .val (.int p4), .val (.int (0 : Int32)), .val (.int (1 : Int32)), .val (.ref mo), .val (.ref sp), .val (.int (21 : Int32)), .val (.int (22 : Int32)), .unset, .unset, .unset, .unset, .unset, .unset, .unset, .unset] [(.int (21 : Int32)), (.int (p2 &&& (2147483647 : Int32)))]))
      refine own_go ?_ (fun tq kt => iremM X48 hx rfl (hb hby at_92) rfl (by decide) kt)
      show own_Fin _ _ _ _ (T48.setTop (mkF m 93 #[.val (.int p1), .val (.int p2), .val (.int p3), .val (.int p4), .val (.int (0 : Int32)), .val (.int (1 : Int32)), .val (.ref mo), .val (.ref sp), .val (.int (21 : Int32)), .val (.int (22 : Int32)), .unset, .unset, .unset, .unset, .unset, .unset, .unset, .unset] [(.int ((p2 &&& (2147483647 : Int32)) % (21 : Int32)))]))
      refine own_go ?_ (fun tq kt => XS.istore X48.here hx rfl (hb hby at_93) rfl (l' := #[.val (.int p1), .val (.int p2), .val (.int p3), .val (.int p4), .val (.int (0 : Int32)), .val (.int (1 : Int32)), .val (.ref mo), .val (.ref sp), .val (.int (21 : Int32)), .val (.int (22 : Int32)), .val (.int ((p2 &&& (2147483647 : Int32)) % (21 : Int32))), .unset, .unset, .unset, .unset, .unset, .unset, .unset]) rfl kt)
      show own_Fin _ _ _ _ (T48.setTop (mkF m 95 #[.val (.int p1), .val (.int p2), .val (.int p3), .val (.int p4), .val (.int (0 : Int32)), .val (.int (1 : Int32)), .val (.ref mo), .val (.ref sp), .val (.int (21 : Int32)), .val (.int (22 : Int32)), .val (.int ((p2 &&& (2147483647 : Int32)) % (21 : Int32))), .unset, .unset, .unset, .unset, .unset, .unset, .unset] []))
      refine own_go ?_ (fun tq kt => XS.iloadN X48.here hx rfl (hb hby at_95) rfl kt)
      show own_Fin _ _ _ _ (T48.setTop (mkF m 96 #[.val (.int p1), .val (.int p2), .val (.int p3), .val (.int p4), .val (.int (0 : Int32)), .val (.int (1 : Int32)), .val (.ref mo), .val (.ref sp), .val (.int (21 : Int32)), .val (.int (22 : Int32)), .val (.int ((p2 &&& (2147483647 : Int32)) % (21 : Int32))), .unset, .unset, .unset, .unset, .unset, .unset, .unset] [(.int p4)]))
      refine own_go ?_ (fun tq kt => X48.ldcInt hx hown (mvT hZ (hw _ (List.mem_of_getElem? (i := 3) rfl))) (g := (mkF m 96 #[.val (.int p1), .val (.int p2), .val (.int p3), .val (.int p4), .val (.int (0 : Int32)), .val (.int (1 : Int32)), .val (.ref mo), .val (.ref sp), .val (.int (21 : Int32)), .val (.int (22 : Int32)), .val (.int ((p2 &&& (2147483647 : Int32)) % (21 : Int32))), .unset, .unset, .unset, .unset, .unset, .unset, .unset] [(.int p4)])) rfl (hb hby at_96) _ kt)
      show own_Fin _ _ _ _ (T48.setTop (mkF m 98 #[.val (.int p1), .val (.int p2), .val (.int p3), .val (.int p4), .val (.int (0 : Int32)), .val (.int (1 : Int32)), .val (.ref mo), .val (.ref sp), .val (.int (21 : Int32)), .val (.int (22 : Int32)), .val (.int ((p2 &&& (2147483647 : Int32)) % (21 : Int32))), .unset, .unset, .unset, .unset, .unset, .unset, .unset] [(.int (2147483647 : Int32)), (.int p4)]))
      refine own_go ?_ (fun tq kt => XS.iand X48.here hx rfl (hb hby at_98) rfl kt)
      show own_Fin _ _ _ _ (T48.setTop (mkF m 99 #[.val (.int p1), .val (.int p2), .val (.int p3), .val (.int p4), .val (.int (0 : Int32)), .val (.int (1 : Int32)), .val (.ref mo), .val (.ref sp), .val (.int (21 : Int32)), .val (.int (22 : Int32)), .val (.int ((p2 &&& (2147483647 : Int32)) % (21 : Int32))), .unset, .unset, .unset, .unset, .unset, .unset, .unset] [(.int (p4 &&& (2147483647 : Int32)))]))
      refine own_go ?_ (fun tq kt => XS.iload X48.here hx rfl (hb hby at_99) rfl kt)
      show own_Fin _ _ _ _ (T48.setTop (mkF m 101 #[.val (.int p1), .val (.int p2), .val (.int p3), .val (.int p4), .val (.int (0 : Int32)), .val (.int (1 : Int32)), .val (.ref mo), .val (.ref sp), .val (.int (21 : Int32)), .val (.int (22 : Int32)), .val (.int ((p2 &&& (2147483647 : Int32)) % (21 : Int32))), .unset, .unset, .unset, .unset, .unset, .unset, .unset] [(.int (22 : Int32)), (.int (p4 &&& (2147483647 : Int32)))]))
      refine own_go ?_ (fun tq kt => iremM X48 hx rfl (hb hby at_101) rfl (by decide) kt)
      show own_Fin _ _ _ _ (T48.setTop (mkF m 102 #[.val (.int p1), .val (.int p2), .val (.int p3), .val (.int p4), .val (.int (0 : Int32)), .val (.int (1 : Int32)), .val (.ref mo), .val (.ref sp), .val (.int (21 : Int32)), .val (.int (22 : Int32)), .val (.int ((p2 &&& (2147483647 : Int32)) % (21 : Int32))), .unset, .unset, .unset, .unset, .unset, .unset, .unset] [(.int ((p4 &&& (2147483647 : Int32)) % (22 : Int32)))]))
      refine own_go ?_ (fun tq kt => XS.istore X48.here hx rfl (hb hby at_102) rfl (l' := #[.val (.int p1), .val (.int p2), .val (.int p3), .val (.int p4), .val (.int (0 : Int32)), .val (.int (1 : Int32)), .val (.ref mo), .val (.ref sp), .val (.int (21 : Int32)), .val (.int (22 : Int32)), .val (.int ((p2 &&& (2147483647 : Int32)) % (21 : Int32))), .val (.int ((p4 &&& (2147483647 : Int32)) % (22 : Int32))), .unset, .unset, .unset, .unset, .unset, .unset]) rfl kt)
      show own_Fin _ _ _ _ (T48.setTop (mkF m 104 #[.val (.int p1), .val (.int p2), .val (.int p3), .val (.int p4), .val (.int (0 : Int32)), .val (.int (1 : Int32)), .val (.ref mo), .val (.ref sp), .val (.int (21 : Int32)), .val (.int (22 : Int32)), .val (.int ((p2 &&& (2147483647 : Int32)) % (21 : Int32))), .val (.int ((p4 &&& (2147483647 : Int32)) % (22 : Int32))), .unset, .unset, .unset, .unset, .unset, .unset] []))
      have Bn1 := own_rem21 p2
      have Bn2 := own_rem22 p4
      generalize ((p2 &&& (2147483647 : Int32)) % (21 : Int32)) = n1 at Bn1 ⊢
      generalize ((p4 &&& (2147483647 : Int32)) % (22 : Int32)) = n2 at Bn2 ⊢
      show own_Fin _ _ _ _ (T48.setTop (mkF m 104 #[.val (.int p1), .val (.int p2), .val (.int p3), .val (.int p4), .val (.int (0 : Int32)), .val (.int (1 : Int32)), .val (.ref mo), .val (.ref sp), .val (.int (21 : Int32)), .val (.int (22 : Int32)), .val (.int n1), .val (.int n2), .unset, .unset, .unset, .unset, .unset, .unset] []))
      obtain ⟨T49, h49, X49, e49, E49, A49, D49, -, st49⟩ := newO X48 hx hZ hown (hw _ (List.mem_of_getElem? (i := 4) rfl)) (hw _ (List.mem_of_getElem? (i := 5) rfl)) (hw _ (List.mem_of_getElem? (i := 6) rfl)) e48 (g := (mkF m 104 #[.val (.int p1), .val (.int p2), .val (.int p3), .val (.int p4), .val (.int (0 : Int32)), .val (.int (1 : Int32)), .val (.ref mo), .val (.ref sp), .val (.int (21 : Int32)), .val (.int (22 : Int32)), .val (.int n1), .val (.int n2), .unset, .unset, .unset, .unset, .unset, .unset] [])) rfl (hb hby at_104) (by decide) (by decide)
      obtain ⟨b49, g49⟩ : ∃ z, z = h0.size := ⟨_, rfl⟩
      rw [← g49] at A49 D49 st49
      have zs50 := Nat.le_trans Z0 E49.1
      have od50 := O0.ext E49
      have g_b49 : n0 ≤ b49 := Nat.le_trans Z0 (Nat.le_of_eq g49.symm)
      have F49_agency : Fld Z h49 b49 "com/example/ballast_ledger/ballastledger/CreditRating" "agency" "Lcom/example/ballast_ledger/ballastledger/CreditRating$Agency;" .null := D49 (Or.inr (hw _ (List.mem_of_getElem? (i := 33) rfl))) (ty := (.object "com/example/ballast_ledger/ballastledger/CreditRating$Agency")) (by decide)
      have F49_notch : Fld Z h49 b49 "com/example/ballast_ledger/ballastledger/CreditRating" "notch" "I" (.int (0 : Int32)) := D49 (Or.inr (hw _ (List.mem_of_getElem? (i := 35) rfl))) (ty := .int) (by decide)
      refine own_go ?_ (fun tq kt => st49 _ kt)
      show own_Fin _ _ _ _ (T49.setTop (mkF m 107 #[.val (.int p1), .val (.int p2), .val (.int p3), .val (.int p4), .val (.int (0 : Int32)), .val (.int (1 : Int32)), .val (.ref mo), .val (.ref sp), .val (.int (21 : Int32)), .val (.int (22 : Int32)), .val (.int n1), .val (.int n2), .unset, .unset, .unset, .unset, .unset, .unset] [(.ref b49)]))
      refine own_go ?_ (fun tq kt => XS.dup X49.here hx rfl (hb hby at_107) rfl rfl kt)
      show own_Fin _ _ _ _ (T49.setTop (mkF m 108 #[.val (.int p1), .val (.int p2), .val (.int p3), .val (.int p4), .val (.int (0 : Int32)), .val (.int (1 : Int32)), .val (.ref mo), .val (.ref sp), .val (.int (21 : Int32)), .val (.int (22 : Int32)), .val (.int n1), .val (.int n2), .unset, .unset, .unset, .unset, .unset, .unset] [(.ref b49), (.ref b49)]))
      refine own_go ?_ (fun tq kt => XS.aload X49.here hx rfl (hb hby at_108) rfl rfl kt)
      show own_Fin _ _ _ _ (T49.setTop (mkF m 110 #[.val (.int p1), .val (.int p2), .val (.int p3), .val (.int p4), .val (.int (0 : Int32)), .val (.int (1 : Int32)), .val (.ref mo), .val (.ref sp), .val (.int (21 : Int32)), .val (.int (22 : Int32)), .val (.int n1), .val (.int n2), .unset, .unset, .unset, .unset, .unset, .unset] [(.ref mo), (.ref b49), (.ref b49)]))
      refine own_go ?_ (fun tq kt => XS.iload X49.here hx rfl (hb hby at_110) rfl kt)
      show own_Fin _ _ _ _ (T49.setTop (mkF m 112 #[.val (.int p1), .val (.int p2), .val (.int p3), .val (.int p4), .val (.int (0 : Int32)), .val (.int (1 : Int32)), .val (.ref mo), .val (.ref sp), .val (.int (21 : Int32)), .val (.int (22 : Int32)), .val (.int n1), .val (.int n2), .unset, .unset, .unset, .unset, .unset, .unset] [(.int n1), (.ref mo), (.ref b49), (.ref b49)]))
      obtain ⟨_, _, ⟨T51, L51, k51, n51⟩, -, X51, ⟨Lc51, hQ51, l51, y51, z51⟩, st51⟩ := X49.specialBack hx (y := (⟨"com/example/ballast_ledger/ballastledger/CreditRating", "<init>", "(Lcom/example/ballast_ledger/ballastledger/CreditRating$Agency;I)V"⟩ : MethodName)) rfl hown (mvT hZ (hw _ (List.mem_of_getElem? (i := 7) rfl))) (mvT hZ (hw _ (List.mem_of_getElem? (i := 8) rfl))) (mvT hZ (hw _ (List.mem_of_getElem? (i := 9) rfl))) (by decide) (backOf (W := 1) (rm1 l Z a0 hw [] b49 mo n1 msc mel mcl (21 : Int32) h49 n0 zs50 od50 A49 F49_agency F49_notch g_b49 mFS mES mFE mAR mAS mAM Bn1.1 Bn1.2) hZ (hw _ (List.mem_of_getElem? (i := 9) rfl)) (hw _ (List.mem_of_getElem? (i := 6) rfl)) (by decide) (by decide)) (g := (mkF m 112 #[.val (.int p1), .val (.int p2), .val (.int p3), .val (.int p4), .val (.int (0 : Int32)), .val (.int (1 : Int32)), .val (.ref mo), .val (.ref sp), .val (.int (21 : Int32)), .val (.int (22 : Int32)), .val (.int n1), .val (.int n2), .unset, .unset, .unset, .unset, .unset, .unset] [(.int n1), (.ref mo), (.ref b49), (.ref b49)])) rfl (by rw [hml]; rfl) (Steps.refl _) (a := b49) (argsL := [(.ref mo), (.int n1)]) (rest := [(.ref b49)]) (lenOf own_pd2 rfl) rfl (by show 2 * 0 + _ ≤ _; exact Nat.le_of_eq rfl) (hb hby at_112) (fun _ _ => ⟨rfl, e49, (by decide : 1 + 0 ≤ _), (by decide : 2 + 0 ≤ _)⟩)
      dsimp only [Pt.U, Pt.locs, Pt.cells, Pt.slots] at X51 l51 y51 z51 st51 hQ51
      subst l51 y51 z51
      obtain ⟨rfl, N51q, K51, F51⟩ := hQ51
      have N51 := Fr.app N0 N51q
      obtain ⟨h51, e51⟩ : ∃ z, z = T51.heap := ⟨_, rfl⟩
      have e51' := e51.symm
      rw [← e51] at K51 F51
      have zs52 := Nat.le_trans zs50 K51.1
      have od52 := od50.keep K51 (allS g_b49 all0)
      refine own_go ?_ (fun tq kt => st51.trans kt)
      show own_Fin _ _ _ _ (T51.setTop (mkF m 115 #[.val (.int p1), .val (.int p2), .val (.int p3), .val (.int p4), .val (.int (0 : Int32)), .val (.int (1 : Int32)), .val (.ref mo), .val (.ref sp), .val (.int (21 : Int32)), .val (.int (22 : Int32)), .val (.int n1), .val (.int n2), .unset, .unset, .unset, .unset, .unset, .unset] [(.ref b49)]))
      refine own_go ?_ (fun tq kt => XS.astore X51.here hx rfl (hb hby at_115) rfl rfl (l' := #[.val (.int p1), .val (.int p2), .val (.int p3), .val (.int p4), .val (.int (0 : Int32)), .val (.int (1 : Int32)), .val (.ref mo), .val (.ref sp), .val (.int (21 : Int32)), .val (.int (22 : Int32)), .val (.int n1), .val (.int n2), .val (.ref b49), .unset, .unset, .unset, .unset, .unset]) rfl kt)
      show own_Fin _ _ _ _ (T51.setTop (mkF m 117 #[.val (.int p1), .val (.int p2), .val (.int p3), .val (.int p4), .val (.int (0 : Int32)), .val (.int (1 : Int32)), .val (.ref mo), .val (.ref sp), .val (.int (21 : Int32)), .val (.int (22 : Int32)), .val (.int n1), .val (.int n2), .val (.ref b49), .unset, .unset, .unset, .unset, .unset] []))
      obtain ⟨T53, h53, X53, e53, E53, A53, D53, -, st53⟩ := newO X51 hx hZ hown (hw _ (List.mem_of_getElem? (i := 4) rfl)) (hw _ (List.mem_of_getElem? (i := 5) rfl)) (hw _ (List.mem_of_getElem? (i := 6) rfl)) e51' (g := (mkF m 117 #[.val (.int p1), .val (.int p2), .val (.int p3), .val (.int p4), .val (.int (0 : Int32)), .val (.int (1 : Int32)), .val (.ref mo), .val (.ref sp), .val (.int (21 : Int32)), .val (.int (22 : Int32)), .val (.int n1), .val (.int n2), .val (.ref b49), .unset, .unset, .unset, .unset, .unset] [])) rfl (hb hby at_117) (by decide) (by decide)
      obtain ⟨b53, g53⟩ : ∃ z, z = h51.size := ⟨_, rfl⟩
      rw [← g53] at A53 D53 st53
      have zs54 := Nat.le_trans zs52 E53.1
      have od54 := od52.ext E53
      have g_b53 : n0 ≤ b53 := Nat.le_trans zs52 (Nat.le_of_eq g53.symm)
      have ne_b49_b53 : b49 ≠ b53 := Nat.ne_of_lt (Nat.lt_of_lt_of_le ((A49.keep K51)).lt (Nat.le_of_eq g53.symm))
      have F53_agency : Fld Z h53 b53 "com/example/ballast_ledger/ballastledger/CreditRating" "agency" "Lcom/example/ballast_ledger/ballastledger/CreditRating$Agency;" .null := D53 (Or.inr (hw _ (List.mem_of_getElem? (i := 33) rfl))) (ty := (.object "com/example/ballast_ledger/ballastledger/CreditRating$Agency")) (by decide)
      have F53_notch : Fld Z h53 b53 "com/example/ballast_ledger/ballastledger/CreditRating" "notch" "I" (.int (0 : Int32)) := D53 (Or.inr (hw _ (List.mem_of_getElem? (i := 35) rfl))) (ty := .int) (by decide)
      refine own_go ?_ (fun tq kt => st53 _ kt)
      show own_Fin _ _ _ _ (T53.setTop (mkF m 120 #[.val (.int p1), .val (.int p2), .val (.int p3), .val (.int p4), .val (.int (0 : Int32)), .val (.int (1 : Int32)), .val (.ref mo), .val (.ref sp), .val (.int (21 : Int32)), .val (.int (22 : Int32)), .val (.int n1), .val (.int n2), .val (.ref b49), .unset, .unset, .unset, .unset, .unset] [(.ref b53)]))
      refine own_go ?_ (fun tq kt => XS.dup X53.here hx rfl (hb hby at_120) rfl rfl kt)
      show own_Fin _ _ _ _ (T53.setTop (mkF m 121 #[.val (.int p1), .val (.int p2), .val (.int p3), .val (.int p4), .val (.int (0 : Int32)), .val (.int (1 : Int32)), .val (.ref mo), .val (.ref sp), .val (.int (21 : Int32)), .val (.int (22 : Int32)), .val (.int n1), .val (.int n2), .val (.ref b49), .unset, .unset, .unset, .unset, .unset] [(.ref b53), (.ref b53)]))
      refine own_go ?_ (fun tq kt => XS.aload X53.here hx rfl (hb hby at_121) rfl rfl kt)
      show own_Fin _ _ _ _ (T53.setTop (mkF m 123 #[.val (.int p1), .val (.int p2), .val (.int p3), .val (.int p4), .val (.int (0 : Int32)), .val (.int (1 : Int32)), .val (.ref mo), .val (.ref sp), .val (.int (21 : Int32)), .val (.int (22 : Int32)), .val (.int n1), .val (.int n2), .val (.ref b49), .unset, .unset, .unset, .unset, .unset] [(.ref sp), (.ref b53), (.ref b53)]))
      refine own_go ?_ (fun tq kt => XS.iload X53.here hx rfl (hb hby at_123) rfl kt)
      show own_Fin _ _ _ _ (T53.setTop (mkF m 125 #[.val (.int p1), .val (.int p2), .val (.int p3), .val (.int p4), .val (.int (0 : Int32)), .val (.int (1 : Int32)), .val (.ref mo), .val (.ref sp), .val (.int (21 : Int32)), .val (.int (22 : Int32)), .val (.int n1), .val (.int n2), .val (.ref b49), .unset, .unset, .unset, .unset, .unset] [(.int n2), (.ref sp), (.ref b53), (.ref b53)]))
      obtain ⟨_, _, ⟨T55, L55, k55, n55⟩, -, X55, ⟨Lc55, hQ55, l55, y55, z55⟩, st55⟩ := X53.specialBack hx (y := (⟨"com/example/ballast_ledger/ballastledger/CreditRating", "<init>", "(Lcom/example/ballast_ledger/ballastledger/CreditRating$Agency;I)V"⟩ : MethodName)) rfl hown (mvT hZ (hw _ (List.mem_of_getElem? (i := 7) rfl))) (mvT hZ (hw _ (List.mem_of_getElem? (i := 8) rfl))) (mvT hZ (hw _ (List.mem_of_getElem? (i := 9) rfl))) (by decide) (backOf (W := 1) (rm1 l Z a0 hw [] b53 sp n2 ssc sel scl (22 : Int32) h53 n0 zs54 od54 A53 F53_agency F53_notch g_b53 sFS sES sFE sAR sAS sAM Bn2.1 Bn2.2) hZ (hw _ (List.mem_of_getElem? (i := 9) rfl)) (hw _ (List.mem_of_getElem? (i := 6) rfl)) (by decide) (by decide)) (g := (mkF m 125 #[.val (.int p1), .val (.int p2), .val (.int p3), .val (.int p4), .val (.int (0 : Int32)), .val (.int (1 : Int32)), .val (.ref mo), .val (.ref sp), .val (.int (21 : Int32)), .val (.int (22 : Int32)), .val (.int n1), .val (.int n2), .val (.ref b49), .unset, .unset, .unset, .unset, .unset] [(.int n2), (.ref sp), (.ref b53), (.ref b53)])) rfl (by rw [hml]; rfl) (Steps.refl _) (a := b53) (argsL := [(.ref sp), (.int n2)]) (rest := [(.ref b53)]) (lenOf own_pd2 rfl) rfl (by show 2 * 0 + _ ≤ _; exact Nat.le_of_eq rfl) (hb hby at_125) (fun _ _ => ⟨rfl, e53, (by decide : 2 + 0 ≤ _), (by decide : 4 + 0 ≤ _)⟩)
      dsimp only [Pt.U, Pt.locs, Pt.cells, Pt.slots] at X55 l55 y55 z55 st55 hQ55
      subst l55 y55 z55
      obtain ⟨rfl, N55q, K55, F55⟩ := hQ55
      have N55 := Fr.app N51 N55q
      obtain ⟨h55, e55⟩ : ∃ z, z = T55.heap := ⟨_, rfl⟩
      have e55' := e55.symm
      rw [← e55] at K55 F55
      have zs56 := Nat.le_trans zs54 K55.1
      have od56 := od54.keep K55 (allS g_b53 all0)
      refine own_go ?_ (fun tq kt => st55.trans kt)
      show own_Fin _ _ _ _ (T55.setTop (mkF m 128 #[.val (.int p1), .val (.int p2), .val (.int p3), .val (.int p4), .val (.int (0 : Int32)), .val (.int (1 : Int32)), .val (.ref mo), .val (.ref sp), .val (.int (21 : Int32)), .val (.int (22 : Int32)), .val (.int n1), .val (.int n2), .val (.ref b49), .unset, .unset, .unset, .unset, .unset] [(.ref b53)]))
      refine own_go ?_ (fun tq kt => XS.astore X55.here hx rfl (hb hby at_128) rfl rfl (l' := #[.val (.int p1), .val (.int p2), .val (.int p3), .val (.int p4), .val (.int (0 : Int32)), .val (.int (1 : Int32)), .val (.ref mo), .val (.ref sp), .val (.int (21 : Int32)), .val (.int (22 : Int32)), .val (.int n1), .val (.int n2), .val (.ref b49), .val (.ref b53), .unset, .unset, .unset, .unset]) rfl kt)
      show own_Fin _ _ _ _ (T55.setTop (mkF m 130 #[.val (.int p1), .val (.int p2), .val (.int p3), .val (.int p4), .val (.int (0 : Int32)), .val (.int (1 : Int32)), .val (.ref mo), .val (.ref sp), .val (.int (21 : Int32)), .val (.int (22 : Int32)), .val (.int n1), .val (.int n2), .val (.ref b49), .val (.ref b53), .unset, .unset, .unset, .unset] []))
      have hs := own_sub n1 n2 Bn1 Bn2
      have hs' := own_sub n2 n1 Bn2 Bn1
      by_cases h12 : n1 < n2
      · have h21 : ¬ n2 < n1 := Int32.lt_asymm h12
        refine own_go ?_ (fun tq kt => XS.aload X55.here hx rfl (hb hby at_130) rfl rfl kt)
        show own_Fin _ _ _ _ (T55.setTop (mkF m 132 #[.val (.int p1), .val (.int p2), .val (.int p3), .val (.int p4), .val (.int (0 : Int32)), .val (.int (1 : Int32)), .val (.ref mo), .val (.ref sp), .val (.int (21 : Int32)), .val (.int (22 : Int32)), .val (.int n1), .val (.int n2), .val (.ref b49), .val (.ref b53), .unset, .unset, .unset, .unset] [(.ref b49)]))
        refine own_go ?_ (fun tq kt => XS.aload X55.here hx rfl (hb hby at_132) rfl rfl kt)
        show own_Fin _ _ _ _ (T55.setTop (mkF m 134 #[.val (.int p1), .val (.int p2), .val (.int p3), .val (.int p4), .val (.int (0 : Int32)), .val (.int (1 : Int32)), .val (.ref mo), .val (.ref sp), .val (.int (21 : Int32)), .val (.int (22 : Int32)), .val (.int n1), .val (.int n2), .val (.ref b49), .val (.ref b53), .unset, .unset, .unset, .unset] [(.ref b53), (.ref b49)]))
        obtain ⟨cq57, kq57, q57a, q57b, q57c⟩ := isOf hZ e55' (((A49.keep K51).ext E53).keep K55)
        obtain ⟨_, _, ⟨T57, L57, k57, n57⟩, -, X57, ⟨Lc57, hQ57, l57, y57, z57⟩, st57⟩ := X55.virtualBack hx (y := (⟨"com/example/ballast_ledger/ballastledger/CreditRating", "isBelow", "(Lcom/example/ballast_ledger/ballastledger/CreditRating;)Z"⟩ : MethodName)) (z := (⟨"com/example/ballast_ledger/ballastledger/CreditRating", "isBelow", "(Lcom/example/ballast_ledger/ballastledger/CreditRating;)Z"⟩ : MethodName)) hown (mvT hZ (hw _ (List.mem_of_getElem? (i := 36) rfl))) (mvT hZ (hw _ (List.mem_of_getElem? (i := 37) rfl))) (notFace_of_selects (args := #[]) (mvT hZ (hw _ (List.mem_of_getElem? (i := 39) rfl)))) (mvT hZ (hw _ (List.mem_of_getElem? (i := 39) rfl))) (mvT hZ (hw _ (List.mem_of_getElem? (i := 38) rfl))) (by decide) (backOf (W := 0) (rm5 l Z a0 hw [] b49 b53 n1 n2 (0 : Int32) h55 n0 zs56 ((F51.ext E53).keep K55 (ninS ne_b49_b53 nin0)) F55 ⟨fun q => absurd q h21, fun _ => rfl⟩) hZ (hw _ (List.mem_of_getElem? (i := 40) rfl)) (hw _ (List.mem_of_getElem? (i := 6) rfl)) (by decide) (by decide)) q57a q57c (g := (mkF m 134 #[.val (.int p1), .val (.int p2), .val (.int p3), .val (.int p4), .val (.int (0 : Int32)), .val (.int (1 : Int32)), .val (.ref mo), .val (.ref sp), .val (.int (21 : Int32)), .val (.int (22 : Int32)), .val (.int n1), .val (.int n2), .val (.ref b49), .val (.ref b53), .unset, .unset, .unset, .unset] [(.ref b53), (.ref b49)])) rfl (by rw [hml]; rfl) (Steps.refl _) (argsL := [(.ref b53)]) (rest := []) (lenOf own_pd3 rfl) rfl (by show 2 * 0 + _ ≤ _; exact Nat.le_of_eq rfl) (hb hby at_134) (fun _ _ => ⟨rfl, e55', (by decide : 2 + 0 ≤ _), (by decide : 4 + 0 ≤ _)⟩)
        dsimp only [Pt.U, Pt.locs, Pt.cells, Pt.slots] at X57 l57 y57 z57 st57 hQ57
        subst l57 y57 z57
        obtain ⟨rfl, N57q, e57⟩ := hQ57
        have N57 := Fr.app N55 N57q
        refine own_go ?_ (fun tq kt => st57.trans kt)
        show own_Fin _ _ _ _ (T57.setTop (mkF m 137 #[.val (.int p1), .val (.int p2), .val (.int p3), .val (.int p4), .val (.int (0 : Int32)), .val (.int (1 : Int32)), .val (.ref mo), .val (.ref sp), .val (.int (21 : Int32)), .val (.int (22 : Int32)), .val (.int n1), .val (.int n2), .val (.ref b49), .val (.ref b53), .unset, .unset, .unset, .unset] [(.int (0 : Int32))]))
        refine own_go ?_ (fun tq kt => XS.istore X57.here hx rfl (hb hby at_137) rfl (l' := #[.val (.int p1), .val (.int p2), .val (.int p3), .val (.int p4), .val (.int (0 : Int32)), .val (.int (1 : Int32)), .val (.ref mo), .val (.ref sp), .val (.int (21 : Int32)), .val (.int (22 : Int32)), .val (.int n1), .val (.int n2), .val (.ref b49), .val (.ref b53), .val (.int (0 : Int32)), .unset, .unset, .unset]) rfl kt)
        show own_Fin _ _ _ _ (T57.setTop (mkF m 139 #[.val (.int p1), .val (.int p2), .val (.int p3), .val (.int p4), .val (.int (0 : Int32)), .val (.int (1 : Int32)), .val (.ref mo), .val (.ref sp), .val (.int (21 : Int32)), .val (.int (22 : Int32)), .val (.int n1), .val (.int n2), .val (.ref b49), .val (.ref b53), .val (.int (0 : Int32)), .unset, .unset, .unset] []))
        refine own_go ?_ (fun tq kt => XS.aload X57.here hx rfl (hb hby at_139) rfl rfl kt)
        show own_Fin _ _ _ _ (T57.setTop (mkF m 141 #[.val (.int p1), .val (.int p2), .val (.int p3), .val (.int p4), .val (.int (0 : Int32)), .val (.int (1 : Int32)), .val (.ref mo), .val (.ref sp), .val (.int (21 : Int32)), .val (.int (22 : Int32)), .val (.int n1), .val (.int n2), .val (.ref b49), .val (.ref b53), .val (.int (0 : Int32)), .unset, .unset, .unset] [(.ref b53)]))
        refine own_go ?_ (fun tq kt => XS.aload X57.here hx rfl (hb hby at_141) rfl rfl kt)
        show own_Fin _ _ _ _ (T57.setTop (mkF m 143 #[.val (.int p1), .val (.int p2), .val (.int p3), .val (.int p4), .val (.int (0 : Int32)), .val (.int (1 : Int32)), .val (.ref mo), .val (.ref sp), .val (.int (21 : Int32)), .val (.int (22 : Int32)), .val (.int n1), .val (.int n2), .val (.ref b49), .val (.ref b53), .val (.int (0 : Int32)), .unset, .unset, .unset] [(.ref b49), (.ref b53)]))
        obtain ⟨cq58, kq58, q58a, q58b, q58c⟩ := isOf hZ e57 (A53.keep K55)
        obtain ⟨_, _, ⟨T58, L58, k58, n58⟩, -, X58, ⟨Lc58, hQ58, l58, y58, z58⟩, st58⟩ := X57.virtualBack hx (y := (⟨"com/example/ballast_ledger/ballastledger/CreditRating", "isBelow", "(Lcom/example/ballast_ledger/ballastledger/CreditRating;)Z"⟩ : MethodName)) (z := (⟨"com/example/ballast_ledger/ballastledger/CreditRating", "isBelow", "(Lcom/example/ballast_ledger/ballastledger/CreditRating;)Z"⟩ : MethodName)) hown (mvT hZ (hw _ (List.mem_of_getElem? (i := 36) rfl))) (mvT hZ (hw _ (List.mem_of_getElem? (i := 37) rfl))) (notFace_of_selects (args := #[]) (mvT hZ (hw _ (List.mem_of_getElem? (i := 39) rfl)))) (mvT hZ (hw _ (List.mem_of_getElem? (i := 39) rfl))) (mvT hZ (hw _ (List.mem_of_getElem? (i := 38) rfl))) (by decide) (backOf (W := 0) (rm5 l Z a0 hw [] b53 b49 n2 n1 (1 : Int32) h55 n0 zs56 F55 ((F51.ext E53).keep K55 (ninS ne_b49_b53 nin0)) ⟨fun _ => rfl, fun q => absurd h12 q⟩) hZ (hw _ (List.mem_of_getElem? (i := 40) rfl)) (hw _ (List.mem_of_getElem? (i := 6) rfl)) (by decide) (by decide)) q58a q58c (g := (mkF m 143 #[.val (.int p1), .val (.int p2), .val (.int p3), .val (.int p4), .val (.int (0 : Int32)), .val (.int (1 : Int32)), .val (.ref mo), .val (.ref sp), .val (.int (21 : Int32)), .val (.int (22 : Int32)), .val (.int n1), .val (.int n2), .val (.ref b49), .val (.ref b53), .val (.int (0 : Int32)), .unset, .unset, .unset] [(.ref b49), (.ref b53)])) rfl (by rw [hml]; rfl) (Steps.refl _) (argsL := [(.ref b49)]) (rest := []) (lenOf own_pd3 rfl) rfl (by show 2 * 0 + _ ≤ _; exact Nat.le_of_eq rfl) (hb hby at_143) (fun _ _ => ⟨rfl, e57, (by decide : 2 + 0 ≤ _), (by decide : 4 + 0 ≤ _)⟩)
        dsimp only [Pt.U, Pt.locs, Pt.cells, Pt.slots] at X58 l58 y58 z58 st58 hQ58
        subst l58 y58 z58
        obtain ⟨rfl, N58q, e58⟩ := hQ58
        have N58 := Fr.app N57 N58q
        refine own_go ?_ (fun tq kt => st58.trans kt)
        show own_Fin _ _ _ _ (T58.setTop (mkF m 146 #[.val (.int p1), .val (.int p2), .val (.int p3), .val (.int p4), .val (.int (0 : Int32)), .val (.int (1 : Int32)), .val (.ref mo), .val (.ref sp), .val (.int (21 : Int32)), .val (.int (22 : Int32)), .val (.int n1), .val (.int n2), .val (.ref b49), .val (.ref b53), .val (.int (0 : Int32)), .unset, .unset, .unset] [(.int (1 : Int32))]))
        refine own_go ?_ (fun tq kt => XS.istore X58.here hx rfl (hb hby at_146) rfl (l' := #[.val (.int p1), .val (.int p2), .val (.int p3), .val (.int p4), .val (.int (0 : Int32)), .val (.int (1 : Int32)), .val (.ref mo), .val (.ref sp), .val (.int (21 : Int32)), .val (.int (22 : Int32)), .val (.int n1), .val (.int n2), .val (.ref b49), .val (.ref b53), .val (.int (0 : Int32)), .val (.int (1 : Int32)), .unset, .unset]) rfl kt)
        show own_Fin _ _ _ _ (T58.setTop (mkF m 148 #[.val (.int p1), .val (.int p2), .val (.int p3), .val (.int p4), .val (.int (0 : Int32)), .val (.int (1 : Int32)), .val (.ref mo), .val (.ref sp), .val (.int (21 : Int32)), .val (.int (22 : Int32)), .val (.int n1), .val (.int n2), .val (.ref b49), .val (.ref b53), .val (.int (0 : Int32)), .val (.int (1 : Int32)), .unset, .unset] []))
        refine own_go ?_ (fun tq kt => XS.iload X58.here hx rfl (hb hby at_148) rfl kt)
        show own_Fin _ _ _ _ (T58.setTop (mkF m 150 #[.val (.int p1), .val (.int p2), .val (.int p3), .val (.int p4), .val (.int (0 : Int32)), .val (.int (1 : Int32)), .val (.ref mo), .val (.ref sp), .val (.int (21 : Int32)), .val (.int (22 : Int32)), .val (.int n1), .val (.int n2), .val (.ref b49), .val (.ref b53), .val (.int (0 : Int32)), .val (.int (1 : Int32)), .unset, .unset] [(.int n1)]))
        refine own_go ?_ (fun tq kt => XS.iload X58.here hx rfl (hb hby at_150) rfl kt)
        show own_Fin _ _ _ _ (T58.setTop (mkF m 152 #[.val (.int p1), .val (.int p2), .val (.int p3), .val (.int p4), .val (.int (0 : Int32)), .val (.int (1 : Int32)), .val (.ref mo), .val (.ref sp), .val (.int (21 : Int32)), .val (.int (22 : Int32)), .val (.int n1), .val (.int n2), .val (.ref b49), .val (.ref b53), .val (.int (0 : Int32)), .val (.int (1 : Int32)), .unset, .unset] [(.int n2), (.int n1)]))
        refine own_go ?_ (fun tq kt => XS.isub X58.here hx rfl (hb hby at_152) rfl kt)
        show own_Fin _ _ _ _ (T58.setTop (mkF m 153 #[.val (.int p1), .val (.int p2), .val (.int p3), .val (.int p4), .val (.int (0 : Int32)), .val (.int (1 : Int32)), .val (.ref mo), .val (.ref sp), .val (.int (21 : Int32)), .val (.int (22 : Int32)), .val (.int n1), .val (.int n2), .val (.ref b49), .val (.ref b53), .val (.int (0 : Int32)), .val (.int (1 : Int32)), .unset, .unset] [(.int (n1 - n2))]))
        refine own_go ?_ (fun tq kt => XS.iconst X58.here hx rfl (hb hby at_153) kt)
        show own_Fin _ _ _ _ (T58.setTop (mkF m 154 #[.val (.int p1), .val (.int p2), .val (.int p3), .val (.int p4), .val (.int (0 : Int32)), .val (.int (1 : Int32)), .val (.ref mo), .val (.ref sp), .val (.int (21 : Int32)), .val (.int (22 : Int32)), .val (.int n1), .val (.int n2), .val (.ref b49), .val (.ref b53), .val (.int (0 : Int32)), .val (.int (1 : Int32)), .unset, .unset] [(.int (1 : Int32)), (.int (n1 - n2))]))
        refine own_go ?_ (fun tq kt => XS.icmpYes X58.here hx rfl (pc0 := 154) (pc' := 161) rfl (hb hby at_154) rfl (tlt ((hs.2 h21) : (n1 - n2) < (1 : Int32))).1 (by decide) (by decide) kt)
        show own_Fin _ _ _ _ (T58.setTop (mkF m 161 #[.val (.int p1), .val (.int p2), .val (.int p3), .val (.int p4), .val (.int (0 : Int32)), .val (.int (1 : Int32)), .val (.ref mo), .val (.ref sp), .val (.int (21 : Int32)), .val (.int (22 : Int32)), .val (.int n1), .val (.int n2), .val (.ref b49), .val (.ref b53), .val (.int (0 : Int32)), .val (.int (1 : Int32)), .unset, .unset] []))
        refine own_go ?_ (fun tq kt => XS.iconst X58.here hx rfl (hb hby at_161) kt)
        show own_Fin _ _ _ _ (T58.setTop (mkF m 162 #[.val (.int p1), .val (.int p2), .val (.int p3), .val (.int p4), .val (.int (0 : Int32)), .val (.int (1 : Int32)), .val (.ref mo), .val (.ref sp), .val (.int (21 : Int32)), .val (.int (22 : Int32)), .val (.int n1), .val (.int n2), .val (.ref b49), .val (.ref b53), .val (.int (0 : Int32)), .val (.int (1 : Int32)), .unset, .unset] [(.int (0 : Int32))]))
        refine own_go ?_ (fun tq kt => XS.istore X58.here hx rfl (hb hby at_162) rfl (l' := #[.val (.int p1), .val (.int p2), .val (.int p3), .val (.int p4), .val (.int (0 : Int32)), .val (.int (1 : Int32)), .val (.ref mo), .val (.ref sp), .val (.int (21 : Int32)), .val (.int (22 : Int32)), .val (.int n1), .val (.int n2), .val (.ref b49), .val (.ref b53), .val (.int (0 : Int32)), .val (.int (1 : Int32)), .val (.int (0 : Int32)), .unset]) rfl kt)
        show own_Fin _ _ _ _ (T58.setTop (mkF m 164 #[.val (.int p1), .val (.int p2), .val (.int p3), .val (.int p4), .val (.int (0 : Int32)), .val (.int (1 : Int32)), .val (.ref mo), .val (.ref sp), .val (.int (21 : Int32)), .val (.int (22 : Int32)), .val (.int n1), .val (.int n2), .val (.ref b49), .val (.ref b53), .val (.int (0 : Int32)), .val (.int (1 : Int32)), .val (.int (0 : Int32)), .unset] []))
        refine own_go ?_ (fun tq kt => XS.iload X58.here hx rfl (hb hby at_164) rfl kt)
        show own_Fin _ _ _ _ (T58.setTop (mkF m 166 #[.val (.int p1), .val (.int p2), .val (.int p3), .val (.int p4), .val (.int (0 : Int32)), .val (.int (1 : Int32)), .val (.ref mo), .val (.ref sp), .val (.int (21 : Int32)), .val (.int (22 : Int32)), .val (.int n1), .val (.int n2), .val (.ref b49), .val (.ref b53), .val (.int (0 : Int32)), .val (.int (1 : Int32)), .val (.int (0 : Int32)), .unset] [(.int n2)]))
        refine own_go ?_ (fun tq kt => XS.iload X58.here hx rfl (hb hby at_166) rfl kt)
        show own_Fin _ _ _ _ (T58.setTop (mkF m 168 #[.val (.int p1), .val (.int p2), .val (.int p3), .val (.int p4), .val (.int (0 : Int32)), .val (.int (1 : Int32)), .val (.ref mo), .val (.ref sp), .val (.int (21 : Int32)), .val (.int (22 : Int32)), .val (.int n1), .val (.int n2), .val (.ref b49), .val (.ref b53), .val (.int (0 : Int32)), .val (.int (1 : Int32)), .val (.int (0 : Int32)), .unset] [(.int n1), (.int n2)]))
        refine own_go ?_ (fun tq kt => XS.isub X58.here hx rfl (hb hby at_168) rfl kt)
        show own_Fin _ _ _ _ (T58.setTop (mkF m 169 #[.val (.int p1), .val (.int p2), .val (.int p3), .val (.int p4), .val (.int (0 : Int32)), .val (.int (1 : Int32)), .val (.ref mo), .val (.ref sp), .val (.int (21 : Int32)), .val (.int (22 : Int32)), .val (.int n1), .val (.int n2), .val (.ref b49), .val (.ref b53), .val (.int (0 : Int32)), .val (.int (1 : Int32)), .val (.int (0 : Int32)), .unset] [(.int (n2 - n1))]))
        refine own_go ?_ (fun tq kt => XS.iconst X58.here hx rfl (hb hby at_169) kt)
        show own_Fin _ _ _ _ (T58.setTop (mkF m 170 #[.val (.int p1), .val (.int p2), .val (.int p3), .val (.int p4), .val (.int (0 : Int32)), .val (.int (1 : Int32)), .val (.ref mo), .val (.ref sp), .val (.int (21 : Int32)), .val (.int (22 : Int32)), .val (.int n1), .val (.int n2), .val (.ref b49), .val (.ref b53), .val (.int (0 : Int32)), .val (.int (1 : Int32)), .val (.int (0 : Int32)), .unset] [(.int (1 : Int32)), (.int (n2 - n1))]))
        refine own_go ?_ (fun tq kt => XS.icmpNo X58.here hx rfl (hb hby at_170) rfl (flt ((hs'.1 h12) : ¬ ((n2 - n1) < (1 : Int32)))).1 kt)
        show own_Fin _ _ _ _ (T58.setTop (mkF m 173 #[.val (.int p1), .val (.int p2), .val (.int p3), .val (.int p4), .val (.int (0 : Int32)), .val (.int (1 : Int32)), .val (.ref mo), .val (.ref sp), .val (.int (21 : Int32)), .val (.int (22 : Int32)), .val (.int n1), .val (.int n2), .val (.ref b49), .val (.ref b53), .val (.int (0 : Int32)), .val (.int (1 : Int32)), .val (.int (0 : Int32)), .unset] []))
        refine own_go ?_ (fun tq kt => XS.iconst X58.here hx rfl (hb hby at_173) kt)
        show own_Fin _ _ _ _ (T58.setTop (mkF m 174 #[.val (.int p1), .val (.int p2), .val (.int p3), .val (.int p4), .val (.int (0 : Int32)), .val (.int (1 : Int32)), .val (.ref mo), .val (.ref sp), .val (.int (21 : Int32)), .val (.int (22 : Int32)), .val (.int n1), .val (.int n2), .val (.ref b49), .val (.ref b53), .val (.int (0 : Int32)), .val (.int (1 : Int32)), .val (.int (0 : Int32)), .unset] [(.int (1 : Int32))]))
        refine own_go ?_ (fun tq kt => XS.goto X58.here hx rfl (pc0 := 174) (pc' := 178) rfl (hb hby at_174) (by decide) (by decide) kt)
        show own_Fin _ _ _ _ (T58.setTop (mkF m 178 #[.val (.int p1), .val (.int p2), .val (.int p3), .val (.int p4), .val (.int (0 : Int32)), .val (.int (1 : Int32)), .val (.ref mo), .val (.ref sp), .val (.int (21 : Int32)), .val (.int (22 : Int32)), .val (.int n1), .val (.int n2), .val (.ref b49), .val (.ref b53), .val (.int (0 : Int32)), .val (.int (1 : Int32)), .val (.int (0 : Int32)), .unset] [(.int (1 : Int32))]))
        refine own_go ?_ (fun tq kt => XS.istore X58.here hx rfl (hb hby at_178) rfl (l' := #[.val (.int p1), .val (.int p2), .val (.int p3), .val (.int p4), .val (.int (0 : Int32)), .val (.int (1 : Int32)), .val (.ref mo), .val (.ref sp), .val (.int (21 : Int32)), .val (.int (22 : Int32)), .val (.int n1), .val (.int n2), .val (.ref b49), .val (.ref b53), .val (.int (0 : Int32)), .val (.int (1 : Int32)), .val (.int (0 : Int32)), .val (.int (1 : Int32))]) rfl kt)
        show own_Fin _ _ _ _ (T58.setTop (mkF m 180 #[.val (.int p1), .val (.int p2), .val (.int p3), .val (.int p4), .val (.int (0 : Int32)), .val (.int (1 : Int32)), .val (.ref mo), .val (.ref sp), .val (.int (21 : Int32)), .val (.int (22 : Int32)), .val (.int n1), .val (.int n2), .val (.ref b49), .val (.ref b53), .val (.int (0 : Int32)), .val (.int (1 : Int32)), .val (.int (0 : Int32)), .val (.int (1 : Int32))] []))
        refine own_go ?_ (fun tq kt => XS.iload X58.here hx rfl (hb hby at_180) rfl kt)
        show own_Fin _ _ _ _ (T58.setTop (mkF m 182 #[.val (.int p1), .val (.int p2), .val (.int p3), .val (.int p4), .val (.int (0 : Int32)), .val (.int (1 : Int32)), .val (.ref mo), .val (.ref sp), .val (.int (21 : Int32)), .val (.int (22 : Int32)), .val (.int n1), .val (.int n2), .val (.ref b49), .val (.ref b53), .val (.int (0 : Int32)), .val (.int (1 : Int32)), .val (.int (0 : Int32)), .val (.int (1 : Int32))] [(.int (0 : Int32))]))
        refine own_go ?_ (fun tq kt => XS.iload X58.here hx rfl (hb hby at_182) rfl kt)
        show own_Fin _ _ _ _ (T58.setTop (mkF m 184 #[.val (.int p1), .val (.int p2), .val (.int p3), .val (.int p4), .val (.int (0 : Int32)), .val (.int (1 : Int32)), .val (.ref mo), .val (.ref sp), .val (.int (21 : Int32)), .val (.int (22 : Int32)), .val (.int n1), .val (.int n2), .val (.ref b49), .val (.ref b53), .val (.int (0 : Int32)), .val (.int (1 : Int32)), .val (.int (0 : Int32)), .val (.int (1 : Int32))] [(.int (0 : Int32)), (.int (0 : Int32))]))
        refine own_go ?_ (fun tq kt => XS.icmpNo X58.here hx rfl (hb hby at_184) rfl (teq (rfl : (0 : Int32) = (0 : Int32))).2 kt)
        show own_Fin _ _ _ _ (T58.setTop (mkF m 187 #[.val (.int p1), .val (.int p2), .val (.int p3), .val (.int p4), .val (.int (0 : Int32)), .val (.int (1 : Int32)), .val (.ref mo), .val (.ref sp), .val (.int (21 : Int32)), .val (.int (22 : Int32)), .val (.int n1), .val (.int n2), .val (.ref b49), .val (.ref b53), .val (.int (0 : Int32)), .val (.int (1 : Int32)), .val (.int (0 : Int32)), .val (.int (1 : Int32))] []))
        refine own_go ?_ (fun tq kt => XS.iload X58.here hx rfl (hb hby at_187) rfl kt)
        show own_Fin _ _ _ _ (T58.setTop (mkF m 189 #[.val (.int p1), .val (.int p2), .val (.int p3), .val (.int p4), .val (.int (0 : Int32)), .val (.int (1 : Int32)), .val (.ref mo), .val (.ref sp), .val (.int (21 : Int32)), .val (.int (22 : Int32)), .val (.int n1), .val (.int n2), .val (.ref b49), .val (.ref b53), .val (.int (0 : Int32)), .val (.int (1 : Int32)), .val (.int (0 : Int32)), .val (.int (1 : Int32))] [(.int (1 : Int32))]))
        refine own_go ?_ (fun tq kt => XS.iload X58.here hx rfl (hb hby at_189) rfl kt)
        show own_Fin _ _ _ _ (T58.setTop (mkF m 191 #[.val (.int p1), .val (.int p2), .val (.int p3), .val (.int p4), .val (.int (0 : Int32)), .val (.int (1 : Int32)), .val (.ref mo), .val (.ref sp), .val (.int (21 : Int32)), .val (.int (22 : Int32)), .val (.int n1), .val (.int n2), .val (.ref b49), .val (.ref b53), .val (.int (0 : Int32)), .val (.int (1 : Int32)), .val (.int (0 : Int32)), .val (.int (1 : Int32))] [(.int (1 : Int32)), (.int (1 : Int32))]))
        refine own_go ?_ (fun tq kt => XS.icmpNo X58.here hx rfl (hb hby at_191) rfl (teq (rfl : (1 : Int32) = (1 : Int32))).2 kt)
        show own_Fin _ _ _ _ (T58.setTop (mkF m 194 #[.val (.int p1), .val (.int p2), .val (.int p3), .val (.int p4), .val (.int (0 : Int32)), .val (.int (1 : Int32)), .val (.ref mo), .val (.ref sp), .val (.int (21 : Int32)), .val (.int (22 : Int32)), .val (.int n1), .val (.int n2), .val (.ref b49), .val (.ref b53), .val (.int (0 : Int32)), .val (.int (1 : Int32)), .val (.int (0 : Int32)), .val (.int (1 : Int32))] []))
        refine own_go ?_ (fun tq kt => XS.iconst X58.here hx rfl (hb hby at_194) kt)
        show own_Fin _ _ _ _ (T58.setTop (mkF m 195 #[.val (.int p1), .val (.int p2), .val (.int p3), .val (.int p4), .val (.int (0 : Int32)), .val (.int (1 : Int32)), .val (.ref mo), .val (.ref sp), .val (.int (21 : Int32)), .val (.int (22 : Int32)), .val (.int n1), .val (.int n2), .val (.ref b49), .val (.ref b53), .val (.int (0 : Int32)), .val (.int (1 : Int32)), .val (.int (0 : Int32)), .val (.int (1 : Int32))] [(.int (1 : Int32))]))
        refine own_go ?_ (fun tq kt => XS.goto X58.here hx rfl (pc0 := 195) (pc' := 199) rfl (hb hby at_195) (by decide) (by decide) kt)
        show own_Fin _ _ _ _ (T58.setTop (mkF m 199 #[.val (.int p1), .val (.int p2), .val (.int p3), .val (.int p4), .val (.int (0 : Int32)), .val (.int (1 : Int32)), .val (.ref mo), .val (.ref sp), .val (.int (21 : Int32)), .val (.int (22 : Int32)), .val (.int n1), .val (.int n2), .val (.ref b49), .val (.ref b53), .val (.int (0 : Int32)), .val (.int (1 : Int32)), .val (.int (0 : Int32)), .val (.int (1 : Int32))] [(.int (1 : Int32))]))
        refine own_retN X58 hx (t := .boolean) Bd.returns (by simp) (hb hby at_199) hlk ?_ (by decide) (by decide)
        exact ⟨rfl, N58⟩
      · by_cases h21 : n2 < n1
        · skip
          refine own_go ?_ (fun tq kt => XS.aload X55.here hx rfl (hb hby at_130) rfl rfl kt)
          show own_Fin _ _ _ _ (T55.setTop (mkF m 132 #[.val (.int p1), .val (.int p2), .val (.int p3), .val (.int p4), .val (.int (0 : Int32)), .val (.int (1 : Int32)), .val (.ref mo), .val (.ref sp), .val (.int (21 : Int32)), .val (.int (22 : Int32)), .val (.int n1), .val (.int n2), .val (.ref b49), .val (.ref b53), .unset, .unset, .unset, .unset] [(.ref b49)]))
          refine own_go ?_ (fun tq kt => XS.aload X55.here hx rfl (hb hby at_132) rfl rfl kt)
          show own_Fin _ _ _ _ (T55.setTop (mkF m 134 #[.val (.int p1), .val (.int p2), .val (.int p3), .val (.int p4), .val (.int (0 : Int32)), .val (.int (1 : Int32)), .val (.ref mo), .val (.ref sp), .val (.int (21 : Int32)), .val (.int (22 : Int32)), .val (.int n1), .val (.int n2), .val (.ref b49), .val (.ref b53), .unset, .unset, .unset, .unset] [(.ref b53), (.ref b49)]))
          obtain ⟨cq59, kq59, q59a, q59b, q59c⟩ := isOf hZ e55' (((A49.keep K51).ext E53).keep K55)
          obtain ⟨_, _, ⟨T59, L59, k59, n59⟩, -, X59, ⟨Lc59, hQ59, l59, y59, z59⟩, st59⟩ := X55.virtualBack hx (y := (⟨"com/example/ballast_ledger/ballastledger/CreditRating", "isBelow", "(Lcom/example/ballast_ledger/ballastledger/CreditRating;)Z"⟩ : MethodName)) (z := (⟨"com/example/ballast_ledger/ballastledger/CreditRating", "isBelow", "(Lcom/example/ballast_ledger/ballastledger/CreditRating;)Z"⟩ : MethodName)) hown (mvT hZ (hw _ (List.mem_of_getElem? (i := 36) rfl))) (mvT hZ (hw _ (List.mem_of_getElem? (i := 37) rfl))) (notFace_of_selects (args := #[]) (mvT hZ (hw _ (List.mem_of_getElem? (i := 39) rfl)))) (mvT hZ (hw _ (List.mem_of_getElem? (i := 39) rfl))) (mvT hZ (hw _ (List.mem_of_getElem? (i := 38) rfl))) (by decide) (backOf (W := 0) (rm5 l Z a0 hw [] b49 b53 n1 n2 (1 : Int32) h55 n0 zs56 ((F51.ext E53).keep K55 (ninS ne_b49_b53 nin0)) F55 ⟨fun _ => rfl, fun q => absurd h21 q⟩) hZ (hw _ (List.mem_of_getElem? (i := 40) rfl)) (hw _ (List.mem_of_getElem? (i := 6) rfl)) (by decide) (by decide)) q59a q59c (g := (mkF m 134 #[.val (.int p1), .val (.int p2), .val (.int p3), .val (.int p4), .val (.int (0 : Int32)), .val (.int (1 : Int32)), .val (.ref mo), .val (.ref sp), .val (.int (21 : Int32)), .val (.int (22 : Int32)), .val (.int n1), .val (.int n2), .val (.ref b49), .val (.ref b53), .unset, .unset, .unset, .unset] [(.ref b53), (.ref b49)])) rfl (by rw [hml]; rfl) (Steps.refl _) (argsL := [(.ref b53)]) (rest := []) (lenOf own_pd3 rfl) rfl (by show 2 * 0 + _ ≤ _; exact Nat.le_of_eq rfl) (hb hby at_134) (fun _ _ => ⟨rfl, e55', (by decide : 2 + 0 ≤ _), (by decide : 4 + 0 ≤ _)⟩)
          dsimp only [Pt.U, Pt.locs, Pt.cells, Pt.slots] at X59 l59 y59 z59 st59 hQ59
          subst l59 y59 z59
          obtain ⟨rfl, N59q, e59⟩ := hQ59
          have N59 := Fr.app N55 N59q
          refine own_go ?_ (fun tq kt => st59.trans kt)
          show own_Fin _ _ _ _ (T59.setTop (mkF m 137 #[.val (.int p1), .val (.int p2), .val (.int p3), .val (.int p4), .val (.int (0 : Int32)), .val (.int (1 : Int32)), .val (.ref mo), .val (.ref sp), .val (.int (21 : Int32)), .val (.int (22 : Int32)), .val (.int n1), .val (.int n2), .val (.ref b49), .val (.ref b53), .unset, .unset, .unset, .unset] [(.int (1 : Int32))]))
          refine own_go ?_ (fun tq kt => XS.istore X59.here hx rfl (hb hby at_137) rfl (l' := #[.val (.int p1), .val (.int p2), .val (.int p3), .val (.int p4), .val (.int (0 : Int32)), .val (.int (1 : Int32)), .val (.ref mo), .val (.ref sp), .val (.int (21 : Int32)), .val (.int (22 : Int32)), .val (.int n1), .val (.int n2), .val (.ref b49), .val (.ref b53), .val (.int (1 : Int32)), .unset, .unset, .unset]) rfl kt)
          show own_Fin _ _ _ _ (T59.setTop (mkF m 139 #[.val (.int p1), .val (.int p2), .val (.int p3), .val (.int p4), .val (.int (0 : Int32)), .val (.int (1 : Int32)), .val (.ref mo), .val (.ref sp), .val (.int (21 : Int32)), .val (.int (22 : Int32)), .val (.int n1), .val (.int n2), .val (.ref b49), .val (.ref b53), .val (.int (1 : Int32)), .unset, .unset, .unset] []))
          refine own_go ?_ (fun tq kt => XS.aload X59.here hx rfl (hb hby at_139) rfl rfl kt)
          show own_Fin _ _ _ _ (T59.setTop (mkF m 141 #[.val (.int p1), .val (.int p2), .val (.int p3), .val (.int p4), .val (.int (0 : Int32)), .val (.int (1 : Int32)), .val (.ref mo), .val (.ref sp), .val (.int (21 : Int32)), .val (.int (22 : Int32)), .val (.int n1), .val (.int n2), .val (.ref b49), .val (.ref b53), .val (.int (1 : Int32)), .unset, .unset, .unset] [(.ref b53)]))
          refine own_go ?_ (fun tq kt => XS.aload X59.here hx rfl (hb hby at_141) rfl rfl kt)
          show own_Fin _ _ _ _ (T59.setTop (mkF m 143 #[.val (.int p1), .val (.int p2), .val (.int p3), .val (.int p4), .val (.int (0 : Int32)), .val (.int (1 : Int32)), .val (.ref mo), .val (.ref sp), .val (.int (21 : Int32)), .val (.int (22 : Int32)), .val (.int n1), .val (.int n2), .val (.ref b49), .val (.ref b53), .val (.int (1 : Int32)), .unset, .unset, .unset] [(.ref b49), (.ref b53)]))
          obtain ⟨cq60, kq60, q60a, q60b, q60c⟩ := isOf hZ e59 (A53.keep K55)
          obtain ⟨_, _, ⟨T60, L60, k60, n60⟩, -, X60, ⟨Lc60, hQ60, l60, y60, z60⟩, st60⟩ := X59.virtualBack hx (y := (⟨"com/example/ballast_ledger/ballastledger/CreditRating", "isBelow", "(Lcom/example/ballast_ledger/ballastledger/CreditRating;)Z"⟩ : MethodName)) (z := (⟨"com/example/ballast_ledger/ballastledger/CreditRating", "isBelow", "(Lcom/example/ballast_ledger/ballastledger/CreditRating;)Z"⟩ : MethodName)) hown (mvT hZ (hw _ (List.mem_of_getElem? (i := 36) rfl))) (mvT hZ (hw _ (List.mem_of_getElem? (i := 37) rfl))) (notFace_of_selects (args := #[]) (mvT hZ (hw _ (List.mem_of_getElem? (i := 39) rfl)))) (mvT hZ (hw _ (List.mem_of_getElem? (i := 39) rfl))) (mvT hZ (hw _ (List.mem_of_getElem? (i := 38) rfl))) (by decide) (backOf (W := 0) (rm5 l Z a0 hw [] b53 b49 n2 n1 (0 : Int32) h55 n0 zs56 F55 ((F51.ext E53).keep K55 (ninS ne_b49_b53 nin0)) ⟨fun q => absurd q h12, fun _ => rfl⟩) hZ (hw _ (List.mem_of_getElem? (i := 40) rfl)) (hw _ (List.mem_of_getElem? (i := 6) rfl)) (by decide) (by decide)) q60a q60c (g := (mkF m 143 #[.val (.int p1), .val (.int p2), .val (.int p3), .val (.int p4), .val (.int (0 : Int32)), .val (.int (1 : Int32)), .val (.ref mo), .val (.ref sp), .val (.int (21 : Int32)), .val (.int (22 : Int32)), .val (.int n1), .val (.int n2), .val (.ref b49), .val (.ref b53), .val (.int (1 : Int32)), .unset, .unset, .unset] [(.ref b49), (.ref b53)])) rfl (by rw [hml]; rfl) (Steps.refl _) (argsL := [(.ref b49)]) (rest := []) (lenOf own_pd3 rfl) rfl (by show 2 * 0 + _ ≤ _; exact Nat.le_of_eq rfl) (hb hby at_143) (fun _ _ => ⟨rfl, e59, (by decide : 2 + 0 ≤ _), (by decide : 4 + 0 ≤ _)⟩)
          dsimp only [Pt.U, Pt.locs, Pt.cells, Pt.slots] at X60 l60 y60 z60 st60 hQ60
          subst l60 y60 z60
          obtain ⟨rfl, N60q, e60⟩ := hQ60
          have N60 := Fr.app N59 N60q
          refine own_go ?_ (fun tq kt => st60.trans kt)
          show own_Fin _ _ _ _ (T60.setTop (mkF m 146 #[.val (.int p1), .val (.int p2), .val (.int p3), .val (.int p4), .val (.int (0 : Int32)), .val (.int (1 : Int32)), .val (.ref mo), .val (.ref sp), .val (.int (21 : Int32)), .val (.int (22 : Int32)), .val (.int n1), .val (.int n2), .val (.ref b49), .val (.ref b53), .val (.int (1 : Int32)), .unset, .unset, .unset] [(.int (0 : Int32))]))
          refine own_go ?_ (fun tq kt => XS.istore X60.here hx rfl (hb hby at_146) rfl (l' := #[.val (.int p1), .val (.int p2), .val (.int p3), .val (.int p4), .val (.int (0 : Int32)), .val (.int (1 : Int32)), .val (.ref mo), .val (.ref sp), .val (.int (21 : Int32)), .val (.int (22 : Int32)), .val (.int n1), .val (.int n2), .val (.ref b49), .val (.ref b53), .val (.int (1 : Int32)), .val (.int (0 : Int32)), .unset, .unset]) rfl kt)
          show own_Fin _ _ _ _ (T60.setTop (mkF m 148 #[.val (.int p1), .val (.int p2), .val (.int p3), .val (.int p4), .val (.int (0 : Int32)), .val (.int (1 : Int32)), .val (.ref mo), .val (.ref sp), .val (.int (21 : Int32)), .val (.int (22 : Int32)), .val (.int n1), .val (.int n2), .val (.ref b49), .val (.ref b53), .val (.int (1 : Int32)), .val (.int (0 : Int32)), .unset, .unset] []))
          refine own_go ?_ (fun tq kt => XS.iload X60.here hx rfl (hb hby at_148) rfl kt)
          show own_Fin _ _ _ _ (T60.setTop (mkF m 150 #[.val (.int p1), .val (.int p2), .val (.int p3), .val (.int p4), .val (.int (0 : Int32)), .val (.int (1 : Int32)), .val (.ref mo), .val (.ref sp), .val (.int (21 : Int32)), .val (.int (22 : Int32)), .val (.int n1), .val (.int n2), .val (.ref b49), .val (.ref b53), .val (.int (1 : Int32)), .val (.int (0 : Int32)), .unset, .unset] [(.int n1)]))
          refine own_go ?_ (fun tq kt => XS.iload X60.here hx rfl (hb hby at_150) rfl kt)
          show own_Fin _ _ _ _ (T60.setTop (mkF m 152 #[.val (.int p1), .val (.int p2), .val (.int p3), .val (.int p4), .val (.int (0 : Int32)), .val (.int (1 : Int32)), .val (.ref mo), .val (.ref sp), .val (.int (21 : Int32)), .val (.int (22 : Int32)), .val (.int n1), .val (.int n2), .val (.ref b49), .val (.ref b53), .val (.int (1 : Int32)), .val (.int (0 : Int32)), .unset, .unset] [(.int n2), (.int n1)]))
          refine own_go ?_ (fun tq kt => XS.isub X60.here hx rfl (hb hby at_152) rfl kt)
          show own_Fin _ _ _ _ (T60.setTop (mkF m 153 #[.val (.int p1), .val (.int p2), .val (.int p3), .val (.int p4), .val (.int (0 : Int32)), .val (.int (1 : Int32)), .val (.ref mo), .val (.ref sp), .val (.int (21 : Int32)), .val (.int (22 : Int32)), .val (.int n1), .val (.int n2), .val (.ref b49), .val (.ref b53), .val (.int (1 : Int32)), .val (.int (0 : Int32)), .unset, .unset] [(.int (n1 - n2))]))
          refine own_go ?_ (fun tq kt => XS.iconst X60.here hx rfl (hb hby at_153) kt)
          show own_Fin _ _ _ _ (T60.setTop (mkF m 154 #[.val (.int p1), .val (.int p2), .val (.int p3), .val (.int p4), .val (.int (0 : Int32)), .val (.int (1 : Int32)), .val (.ref mo), .val (.ref sp), .val (.int (21 : Int32)), .val (.int (22 : Int32)), .val (.int n1), .val (.int n2), .val (.ref b49), .val (.ref b53), .val (.int (1 : Int32)), .val (.int (0 : Int32)), .unset, .unset] [(.int (1 : Int32)), (.int (n1 - n2))]))
          refine own_go ?_ (fun tq kt => XS.icmpNo X60.here hx rfl (hb hby at_154) rfl (flt ((hs.1 h21) : ¬ ((n1 - n2) < (1 : Int32)))).1 kt)
          show own_Fin _ _ _ _ (T60.setTop (mkF m 157 #[.val (.int p1), .val (.int p2), .val (.int p3), .val (.int p4), .val (.int (0 : Int32)), .val (.int (1 : Int32)), .val (.ref mo), .val (.ref sp), .val (.int (21 : Int32)), .val (.int (22 : Int32)), .val (.int n1), .val (.int n2), .val (.ref b49), .val (.ref b53), .val (.int (1 : Int32)), .val (.int (0 : Int32)), .unset, .unset] []))
          refine own_go ?_ (fun tq kt => XS.iconst X60.here hx rfl (hb hby at_157) kt)
          show own_Fin _ _ _ _ (T60.setTop (mkF m 158 #[.val (.int p1), .val (.int p2), .val (.int p3), .val (.int p4), .val (.int (0 : Int32)), .val (.int (1 : Int32)), .val (.ref mo), .val (.ref sp), .val (.int (21 : Int32)), .val (.int (22 : Int32)), .val (.int n1), .val (.int n2), .val (.ref b49), .val (.ref b53), .val (.int (1 : Int32)), .val (.int (0 : Int32)), .unset, .unset] [(.int (1 : Int32))]))
          refine own_go ?_ (fun tq kt => XS.goto X60.here hx rfl (pc0 := 158) (pc' := 162) rfl (hb hby at_158) (by decide) (by decide) kt)
          show own_Fin _ _ _ _ (T60.setTop (mkF m 162 #[.val (.int p1), .val (.int p2), .val (.int p3), .val (.int p4), .val (.int (0 : Int32)), .val (.int (1 : Int32)), .val (.ref mo), .val (.ref sp), .val (.int (21 : Int32)), .val (.int (22 : Int32)), .val (.int n1), .val (.int n2), .val (.ref b49), .val (.ref b53), .val (.int (1 : Int32)), .val (.int (0 : Int32)), .unset, .unset] [(.int (1 : Int32))]))
          refine own_go ?_ (fun tq kt => XS.istore X60.here hx rfl (hb hby at_162) rfl (l' := #[.val (.int p1), .val (.int p2), .val (.int p3), .val (.int p4), .val (.int (0 : Int32)), .val (.int (1 : Int32)), .val (.ref mo), .val (.ref sp), .val (.int (21 : Int32)), .val (.int (22 : Int32)), .val (.int n1), .val (.int n2), .val (.ref b49), .val (.ref b53), .val (.int (1 : Int32)), .val (.int (0 : Int32)), .val (.int (1 : Int32)), .unset]) rfl kt)
          show own_Fin _ _ _ _ (T60.setTop (mkF m 164 #[.val (.int p1), .val (.int p2), .val (.int p3), .val (.int p4), .val (.int (0 : Int32)), .val (.int (1 : Int32)), .val (.ref mo), .val (.ref sp), .val (.int (21 : Int32)), .val (.int (22 : Int32)), .val (.int n1), .val (.int n2), .val (.ref b49), .val (.ref b53), .val (.int (1 : Int32)), .val (.int (0 : Int32)), .val (.int (1 : Int32)), .unset] []))
          refine own_go ?_ (fun tq kt => XS.iload X60.here hx rfl (hb hby at_164) rfl kt)
          show own_Fin _ _ _ _ (T60.setTop (mkF m 166 #[.val (.int p1), .val (.int p2), .val (.int p3), .val (.int p4), .val (.int (0 : Int32)), .val (.int (1 : Int32)), .val (.ref mo), .val (.ref sp), .val (.int (21 : Int32)), .val (.int (22 : Int32)), .val (.int n1), .val (.int n2), .val (.ref b49), .val (.ref b53), .val (.int (1 : Int32)), .val (.int (0 : Int32)), .val (.int (1 : Int32)), .unset] [(.int n2)]))
          refine own_go ?_ (fun tq kt => XS.iload X60.here hx rfl (hb hby at_166) rfl kt)
          show own_Fin _ _ _ _ (T60.setTop (mkF m 168 #[.val (.int p1), .val (.int p2), .val (.int p3), .val (.int p4), .val (.int (0 : Int32)), .val (.int (1 : Int32)), .val (.ref mo), .val (.ref sp), .val (.int (21 : Int32)), .val (.int (22 : Int32)), .val (.int n1), .val (.int n2), .val (.ref b49), .val (.ref b53), .val (.int (1 : Int32)), .val (.int (0 : Int32)), .val (.int (1 : Int32)), .unset] [(.int n1), (.int n2)]))
          refine own_go ?_ (fun tq kt => XS.isub X60.here hx rfl (hb hby at_168) rfl kt)
          show own_Fin _ _ _ _ (T60.setTop (mkF m 169 #[.val (.int p1), .val (.int p2), .val (.int p3), .val (.int p4), .val (.int (0 : Int32)), .val (.int (1 : Int32)), .val (.ref mo), .val (.ref sp), .val (.int (21 : Int32)), .val (.int (22 : Int32)), .val (.int n1), .val (.int n2), .val (.ref b49), .val (.ref b53), .val (.int (1 : Int32)), .val (.int (0 : Int32)), .val (.int (1 : Int32)), .unset] [(.int (n2 - n1))]))
          refine own_go ?_ (fun tq kt => XS.iconst X60.here hx rfl (hb hby at_169) kt)
          show own_Fin _ _ _ _ (T60.setTop (mkF m 170 #[.val (.int p1), .val (.int p2), .val (.int p3), .val (.int p4), .val (.int (0 : Int32)), .val (.int (1 : Int32)), .val (.ref mo), .val (.ref sp), .val (.int (21 : Int32)), .val (.int (22 : Int32)), .val (.int n1), .val (.int n2), .val (.ref b49), .val (.ref b53), .val (.int (1 : Int32)), .val (.int (0 : Int32)), .val (.int (1 : Int32)), .unset] [(.int (1 : Int32)), (.int (n2 - n1))]))
          refine own_go ?_ (fun tq kt => XS.icmpYes X60.here hx rfl (pc0 := 170) (pc' := 177) rfl (hb hby at_170) rfl (tlt ((hs'.2 h12) : (n2 - n1) < (1 : Int32))).1 (by decide) (by decide) kt)
          show own_Fin _ _ _ _ (T60.setTop (mkF m 177 #[.val (.int p1), .val (.int p2), .val (.int p3), .val (.int p4), .val (.int (0 : Int32)), .val (.int (1 : Int32)), .val (.ref mo), .val (.ref sp), .val (.int (21 : Int32)), .val (.int (22 : Int32)), .val (.int n1), .val (.int n2), .val (.ref b49), .val (.ref b53), .val (.int (1 : Int32)), .val (.int (0 : Int32)), .val (.int (1 : Int32)), .unset] []))
          refine own_go ?_ (fun tq kt => XS.iconst X60.here hx rfl (hb hby at_177) kt)
          show own_Fin _ _ _ _ (T60.setTop (mkF m 178 #[.val (.int p1), .val (.int p2), .val (.int p3), .val (.int p4), .val (.int (0 : Int32)), .val (.int (1 : Int32)), .val (.ref mo), .val (.ref sp), .val (.int (21 : Int32)), .val (.int (22 : Int32)), .val (.int n1), .val (.int n2), .val (.ref b49), .val (.ref b53), .val (.int (1 : Int32)), .val (.int (0 : Int32)), .val (.int (1 : Int32)), .unset] [(.int (0 : Int32))]))
          refine own_go ?_ (fun tq kt => XS.istore X60.here hx rfl (hb hby at_178) rfl (l' := #[.val (.int p1), .val (.int p2), .val (.int p3), .val (.int p4), .val (.int (0 : Int32)), .val (.int (1 : Int32)), .val (.ref mo), .val (.ref sp), .val (.int (21 : Int32)), .val (.int (22 : Int32)), .val (.int n1), .val (.int n2), .val (.ref b49), .val (.ref b53), .val (.int (1 : Int32)), .val (.int (0 : Int32)), .val (.int (1 : Int32)), .val (.int (0 : Int32))]) rfl kt)
          show own_Fin _ _ _ _ (T60.setTop (mkF m 180 #[.val (.int p1), .val (.int p2), .val (.int p3), .val (.int p4), .val (.int (0 : Int32)), .val (.int (1 : Int32)), .val (.ref mo), .val (.ref sp), .val (.int (21 : Int32)), .val (.int (22 : Int32)), .val (.int n1), .val (.int n2), .val (.ref b49), .val (.ref b53), .val (.int (1 : Int32)), .val (.int (0 : Int32)), .val (.int (1 : Int32)), .val (.int (0 : Int32))] []))
          refine own_go ?_ (fun tq kt => XS.iload X60.here hx rfl (hb hby at_180) rfl kt)
          show own_Fin _ _ _ _ (T60.setTop (mkF m 182 #[.val (.int p1), .val (.int p2), .val (.int p3), .val (.int p4), .val (.int (0 : Int32)), .val (.int (1 : Int32)), .val (.ref mo), .val (.ref sp), .val (.int (21 : Int32)), .val (.int (22 : Int32)), .val (.int n1), .val (.int n2), .val (.ref b49), .val (.ref b53), .val (.int (1 : Int32)), .val (.int (0 : Int32)), .val (.int (1 : Int32)), .val (.int (0 : Int32))] [(.int (1 : Int32))]))
          refine own_go ?_ (fun tq kt => XS.iload X60.here hx rfl (hb hby at_182) rfl kt)
          show own_Fin _ _ _ _ (T60.setTop (mkF m 184 #[.val (.int p1), .val (.int p2), .val (.int p3), .val (.int p4), .val (.int (0 : Int32)), .val (.int (1 : Int32)), .val (.ref mo), .val (.ref sp), .val (.int (21 : Int32)), .val (.int (22 : Int32)), .val (.int n1), .val (.int n2), .val (.ref b49), .val (.ref b53), .val (.int (1 : Int32)), .val (.int (0 : Int32)), .val (.int (1 : Int32)), .val (.int (0 : Int32))] [(.int (1 : Int32)), (.int (1 : Int32))]))
          refine own_go ?_ (fun tq kt => XS.icmpNo X60.here hx rfl (hb hby at_184) rfl (teq (rfl : (1 : Int32) = (1 : Int32))).2 kt)
          show own_Fin _ _ _ _ (T60.setTop (mkF m 187 #[.val (.int p1), .val (.int p2), .val (.int p3), .val (.int p4), .val (.int (0 : Int32)), .val (.int (1 : Int32)), .val (.ref mo), .val (.ref sp), .val (.int (21 : Int32)), .val (.int (22 : Int32)), .val (.int n1), .val (.int n2), .val (.ref b49), .val (.ref b53), .val (.int (1 : Int32)), .val (.int (0 : Int32)), .val (.int (1 : Int32)), .val (.int (0 : Int32))] []))
          refine own_go ?_ (fun tq kt => XS.iload X60.here hx rfl (hb hby at_187) rfl kt)
          show own_Fin _ _ _ _ (T60.setTop (mkF m 189 #[.val (.int p1), .val (.int p2), .val (.int p3), .val (.int p4), .val (.int (0 : Int32)), .val (.int (1 : Int32)), .val (.ref mo), .val (.ref sp), .val (.int (21 : Int32)), .val (.int (22 : Int32)), .val (.int n1), .val (.int n2), .val (.ref b49), .val (.ref b53), .val (.int (1 : Int32)), .val (.int (0 : Int32)), .val (.int (1 : Int32)), .val (.int (0 : Int32))] [(.int (0 : Int32))]))
          refine own_go ?_ (fun tq kt => XS.iload X60.here hx rfl (hb hby at_189) rfl kt)
          show own_Fin _ _ _ _ (T60.setTop (mkF m 191 #[.val (.int p1), .val (.int p2), .val (.int p3), .val (.int p4), .val (.int (0 : Int32)), .val (.int (1 : Int32)), .val (.ref mo), .val (.ref sp), .val (.int (21 : Int32)), .val (.int (22 : Int32)), .val (.int n1), .val (.int n2), .val (.ref b49), .val (.ref b53), .val (.int (1 : Int32)), .val (.int (0 : Int32)), .val (.int (1 : Int32)), .val (.int (0 : Int32))] [(.int (0 : Int32)), (.int (0 : Int32))]))
          refine own_go ?_ (fun tq kt => XS.icmpNo X60.here hx rfl (hb hby at_191) rfl (teq (rfl : (0 : Int32) = (0 : Int32))).2 kt)
          show own_Fin _ _ _ _ (T60.setTop (mkF m 194 #[.val (.int p1), .val (.int p2), .val (.int p3), .val (.int p4), .val (.int (0 : Int32)), .val (.int (1 : Int32)), .val (.ref mo), .val (.ref sp), .val (.int (21 : Int32)), .val (.int (22 : Int32)), .val (.int n1), .val (.int n2), .val (.ref b49), .val (.ref b53), .val (.int (1 : Int32)), .val (.int (0 : Int32)), .val (.int (1 : Int32)), .val (.int (0 : Int32))] []))
          refine own_go ?_ (fun tq kt => XS.iconst X60.here hx rfl (hb hby at_194) kt)
          show own_Fin _ _ _ _ (T60.setTop (mkF m 195 #[.val (.int p1), .val (.int p2), .val (.int p3), .val (.int p4), .val (.int (0 : Int32)), .val (.int (1 : Int32)), .val (.ref mo), .val (.ref sp), .val (.int (21 : Int32)), .val (.int (22 : Int32)), .val (.int n1), .val (.int n2), .val (.ref b49), .val (.ref b53), .val (.int (1 : Int32)), .val (.int (0 : Int32)), .val (.int (1 : Int32)), .val (.int (0 : Int32))] [(.int (1 : Int32))]))
          refine own_go ?_ (fun tq kt => XS.goto X60.here hx rfl (pc0 := 195) (pc' := 199) rfl (hb hby at_195) (by decide) (by decide) kt)
          show own_Fin _ _ _ _ (T60.setTop (mkF m 199 #[.val (.int p1), .val (.int p2), .val (.int p3), .val (.int p4), .val (.int (0 : Int32)), .val (.int (1 : Int32)), .val (.ref mo), .val (.ref sp), .val (.int (21 : Int32)), .val (.int (22 : Int32)), .val (.int n1), .val (.int n2), .val (.ref b49), .val (.ref b53), .val (.int (1 : Int32)), .val (.int (0 : Int32)), .val (.int (1 : Int32)), .val (.int (0 : Int32))] [(.int (1 : Int32))]))
          refine own_retN X60 hx (t := .boolean) Bd.returns (by simp) (hb hby at_199) hlk ?_ (by decide) (by decide)
          exact ⟨rfl, N60⟩
        · skip
          refine own_go ?_ (fun tq kt => XS.aload X55.here hx rfl (hb hby at_130) rfl rfl kt)
          show own_Fin _ _ _ _ (T55.setTop (mkF m 132 #[.val (.int p1), .val (.int p2), .val (.int p3), .val (.int p4), .val (.int (0 : Int32)), .val (.int (1 : Int32)), .val (.ref mo), .val (.ref sp), .val (.int (21 : Int32)), .val (.int (22 : Int32)), .val (.int n1), .val (.int n2), .val (.ref b49), .val (.ref b53), .unset, .unset, .unset, .unset] [(.ref b49)]))
          refine own_go ?_ (fun tq kt => XS.aload X55.here hx rfl (hb hby at_132) rfl rfl kt)
          show own_Fin _ _ _ _ (T55.setTop (mkF m 134 #[.val (.int p1), .val (.int p2), .val (.int p3), .val (.int p4), .val (.int (0 : Int32)), .val (.int (1 : Int32)), .val (.ref mo), .val (.ref sp), .val (.int (21 : Int32)), .val (.int (22 : Int32)), .val (.int n1), .val (.int n2), .val (.ref b49), .val (.ref b53), .unset, .unset, .unset, .unset] [(.ref b53), (.ref b49)]))
          obtain ⟨cq61, kq61, q61a, q61b, q61c⟩ := isOf hZ e55' (((A49.keep K51).ext E53).keep K55)
          obtain ⟨_, _, ⟨T61, L61, k61, n61⟩, -, X61, ⟨Lc61, hQ61, l61, y61, z61⟩, st61⟩ := X55.virtualBack hx (y := (⟨"com/example/ballast_ledger/ballastledger/CreditRating", "isBelow", "(Lcom/example/ballast_ledger/ballastledger/CreditRating;)Z"⟩ : MethodName)) (z := (⟨"com/example/ballast_ledger/ballastledger/CreditRating", "isBelow", "(Lcom/example/ballast_ledger/ballastledger/CreditRating;)Z"⟩ : MethodName)) hown (mvT hZ (hw _ (List.mem_of_getElem? (i := 36) rfl))) (mvT hZ (hw _ (List.mem_of_getElem? (i := 37) rfl))) (notFace_of_selects (args := #[]) (mvT hZ (hw _ (List.mem_of_getElem? (i := 39) rfl)))) (mvT hZ (hw _ (List.mem_of_getElem? (i := 39) rfl))) (mvT hZ (hw _ (List.mem_of_getElem? (i := 38) rfl))) (by decide) (backOf (W := 0) (rm5 l Z a0 hw [] b49 b53 n1 n2 (0 : Int32) h55 n0 zs56 ((F51.ext E53).keep K55 (ninS ne_b49_b53 nin0)) F55 ⟨fun q => absurd q h21, fun _ => rfl⟩) hZ (hw _ (List.mem_of_getElem? (i := 40) rfl)) (hw _ (List.mem_of_getElem? (i := 6) rfl)) (by decide) (by decide)) q61a q61c (g := (mkF m 134 #[.val (.int p1), .val (.int p2), .val (.int p3), .val (.int p4), .val (.int (0 : Int32)), .val (.int (1 : Int32)), .val (.ref mo), .val (.ref sp), .val (.int (21 : Int32)), .val (.int (22 : Int32)), .val (.int n1), .val (.int n2), .val (.ref b49), .val (.ref b53), .unset, .unset, .unset, .unset] [(.ref b53), (.ref b49)])) rfl (by rw [hml]; rfl) (Steps.refl _) (argsL := [(.ref b53)]) (rest := []) (lenOf own_pd3 rfl) rfl (by show 2 * 0 + _ ≤ _; exact Nat.le_of_eq rfl) (hb hby at_134) (fun _ _ => ⟨rfl, e55', (by decide : 2 + 0 ≤ _), (by decide : 4 + 0 ≤ _)⟩)
          dsimp only [Pt.U, Pt.locs, Pt.cells, Pt.slots] at X61 l61 y61 z61 st61 hQ61
          subst l61 y61 z61
          obtain ⟨rfl, N61q, e61⟩ := hQ61
          have N61 := Fr.app N55 N61q
          refine own_go ?_ (fun tq kt => st61.trans kt)
          show own_Fin _ _ _ _ (T61.setTop (mkF m 137 #[.val (.int p1), .val (.int p2), .val (.int p3), .val (.int p4), .val (.int (0 : Int32)), .val (.int (1 : Int32)), .val (.ref mo), .val (.ref sp), .val (.int (21 : Int32)), .val (.int (22 : Int32)), .val (.int n1), .val (.int n2), .val (.ref b49), .val (.ref b53), .unset, .unset, .unset, .unset] [(.int (0 : Int32))]))
          refine own_go ?_ (fun tq kt => XS.istore X61.here hx rfl (hb hby at_137) rfl (l' := #[.val (.int p1), .val (.int p2), .val (.int p3), .val (.int p4), .val (.int (0 : Int32)), .val (.int (1 : Int32)), .val (.ref mo), .val (.ref sp), .val (.int (21 : Int32)), .val (.int (22 : Int32)), .val (.int n1), .val (.int n2), .val (.ref b49), .val (.ref b53), .val (.int (0 : Int32)), .unset, .unset, .unset]) rfl kt)
          show own_Fin _ _ _ _ (T61.setTop (mkF m 139 #[.val (.int p1), .val (.int p2), .val (.int p3), .val (.int p4), .val (.int (0 : Int32)), .val (.int (1 : Int32)), .val (.ref mo), .val (.ref sp), .val (.int (21 : Int32)), .val (.int (22 : Int32)), .val (.int n1), .val (.int n2), .val (.ref b49), .val (.ref b53), .val (.int (0 : Int32)), .unset, .unset, .unset] []))
          refine own_go ?_ (fun tq kt => XS.aload X61.here hx rfl (hb hby at_139) rfl rfl kt)
          show own_Fin _ _ _ _ (T61.setTop (mkF m 141 #[.val (.int p1), .val (.int p2), .val (.int p3), .val (.int p4), .val (.int (0 : Int32)), .val (.int (1 : Int32)), .val (.ref mo), .val (.ref sp), .val (.int (21 : Int32)), .val (.int (22 : Int32)), .val (.int n1), .val (.int n2), .val (.ref b49), .val (.ref b53), .val (.int (0 : Int32)), .unset, .unset, .unset] [(.ref b53)]))
          refine own_go ?_ (fun tq kt => XS.aload X61.here hx rfl (hb hby at_141) rfl rfl kt)
          show own_Fin _ _ _ _ (T61.setTop (mkF m 143 #[.val (.int p1), .val (.int p2), .val (.int p3), .val (.int p4), .val (.int (0 : Int32)), .val (.int (1 : Int32)), .val (.ref mo), .val (.ref sp), .val (.int (21 : Int32)), .val (.int (22 : Int32)), .val (.int n1), .val (.int n2), .val (.ref b49), .val (.ref b53), .val (.int (0 : Int32)), .unset, .unset, .unset] [(.ref b49), (.ref b53)]))
          obtain ⟨cq62, kq62, q62a, q62b, q62c⟩ := isOf hZ e61 (A53.keep K55)
          obtain ⟨_, _, ⟨T62, L62, k62, n62⟩, -, X62, ⟨Lc62, hQ62, l62, y62, z62⟩, st62⟩ := X61.virtualBack hx (y := (⟨"com/example/ballast_ledger/ballastledger/CreditRating", "isBelow", "(Lcom/example/ballast_ledger/ballastledger/CreditRating;)Z"⟩ : MethodName)) (z := (⟨"com/example/ballast_ledger/ballastledger/CreditRating", "isBelow", "(Lcom/example/ballast_ledger/ballastledger/CreditRating;)Z"⟩ : MethodName)) hown (mvT hZ (hw _ (List.mem_of_getElem? (i := 36) rfl))) (mvT hZ (hw _ (List.mem_of_getElem? (i := 37) rfl))) (notFace_of_selects (args := #[]) (mvT hZ (hw _ (List.mem_of_getElem? (i := 39) rfl)))) (mvT hZ (hw _ (List.mem_of_getElem? (i := 39) rfl))) (mvT hZ (hw _ (List.mem_of_getElem? (i := 38) rfl))) (by decide) (backOf (W := 0) (rm5 l Z a0 hw [] b53 b49 n2 n1 (0 : Int32) h55 n0 zs56 F55 ((F51.ext E53).keep K55 (ninS ne_b49_b53 nin0)) ⟨fun q => absurd q h12, fun _ => rfl⟩) hZ (hw _ (List.mem_of_getElem? (i := 40) rfl)) (hw _ (List.mem_of_getElem? (i := 6) rfl)) (by decide) (by decide)) q62a q62c (g := (mkF m 143 #[.val (.int p1), .val (.int p2), .val (.int p3), .val (.int p4), .val (.int (0 : Int32)), .val (.int (1 : Int32)), .val (.ref mo), .val (.ref sp), .val (.int (21 : Int32)), .val (.int (22 : Int32)), .val (.int n1), .val (.int n2), .val (.ref b49), .val (.ref b53), .val (.int (0 : Int32)), .unset, .unset, .unset] [(.ref b49), (.ref b53)])) rfl (by rw [hml]; rfl) (Steps.refl _) (argsL := [(.ref b49)]) (rest := []) (lenOf own_pd3 rfl) rfl (by show 2 * 0 + _ ≤ _; exact Nat.le_of_eq rfl) (hb hby at_143) (fun _ _ => ⟨rfl, e61, (by decide : 2 + 0 ≤ _), (by decide : 4 + 0 ≤ _)⟩)
          dsimp only [Pt.U, Pt.locs, Pt.cells, Pt.slots] at X62 l62 y62 z62 st62 hQ62
          subst l62 y62 z62
          obtain ⟨rfl, N62q, e62⟩ := hQ62
          have N62 := Fr.app N61 N62q
          refine own_go ?_ (fun tq kt => st62.trans kt)
          show own_Fin _ _ _ _ (T62.setTop (mkF m 146 #[.val (.int p1), .val (.int p2), .val (.int p3), .val (.int p4), .val (.int (0 : Int32)), .val (.int (1 : Int32)), .val (.ref mo), .val (.ref sp), .val (.int (21 : Int32)), .val (.int (22 : Int32)), .val (.int n1), .val (.int n2), .val (.ref b49), .val (.ref b53), .val (.int (0 : Int32)), .unset, .unset, .unset] [(.int (0 : Int32))]))
          refine own_go ?_ (fun tq kt => XS.istore X62.here hx rfl (hb hby at_146) rfl (l' := #[.val (.int p1), .val (.int p2), .val (.int p3), .val (.int p4), .val (.int (0 : Int32)), .val (.int (1 : Int32)), .val (.ref mo), .val (.ref sp), .val (.int (21 : Int32)), .val (.int (22 : Int32)), .val (.int n1), .val (.int n2), .val (.ref b49), .val (.ref b53), .val (.int (0 : Int32)), .val (.int (0 : Int32)), .unset, .unset]) rfl kt)
          show own_Fin _ _ _ _ (T62.setTop (mkF m 148 #[.val (.int p1), .val (.int p2), .val (.int p3), .val (.int p4), .val (.int (0 : Int32)), .val (.int (1 : Int32)), .val (.ref mo), .val (.ref sp), .val (.int (21 : Int32)), .val (.int (22 : Int32)), .val (.int n1), .val (.int n2), .val (.ref b49), .val (.ref b53), .val (.int (0 : Int32)), .val (.int (0 : Int32)), .unset, .unset] []))
          refine own_go ?_ (fun tq kt => XS.iload X62.here hx rfl (hb hby at_148) rfl kt)
          show own_Fin _ _ _ _ (T62.setTop (mkF m 150 #[.val (.int p1), .val (.int p2), .val (.int p3), .val (.int p4), .val (.int (0 : Int32)), .val (.int (1 : Int32)), .val (.ref mo), .val (.ref sp), .val (.int (21 : Int32)), .val (.int (22 : Int32)), .val (.int n1), .val (.int n2), .val (.ref b49), .val (.ref b53), .val (.int (0 : Int32)), .val (.int (0 : Int32)), .unset, .unset] [(.int n1)]))
          refine own_go ?_ (fun tq kt => XS.iload X62.here hx rfl (hb hby at_150) rfl kt)
          show own_Fin _ _ _ _ (T62.setTop (mkF m 152 #[.val (.int p1), .val (.int p2), .val (.int p3), .val (.int p4), .val (.int (0 : Int32)), .val (.int (1 : Int32)), .val (.ref mo), .val (.ref sp), .val (.int (21 : Int32)), .val (.int (22 : Int32)), .val (.int n1), .val (.int n2), .val (.ref b49), .val (.ref b53), .val (.int (0 : Int32)), .val (.int (0 : Int32)), .unset, .unset] [(.int n2), (.int n1)]))
          refine own_go ?_ (fun tq kt => XS.isub X62.here hx rfl (hb hby at_152) rfl kt)
          show own_Fin _ _ _ _ (T62.setTop (mkF m 153 #[.val (.int p1), .val (.int p2), .val (.int p3), .val (.int p4), .val (.int (0 : Int32)), .val (.int (1 : Int32)), .val (.ref mo), .val (.ref sp), .val (.int (21 : Int32)), .val (.int (22 : Int32)), .val (.int n1), .val (.int n2), .val (.ref b49), .val (.ref b53), .val (.int (0 : Int32)), .val (.int (0 : Int32)), .unset, .unset] [(.int (n1 - n2))]))
          refine own_go ?_ (fun tq kt => XS.iconst X62.here hx rfl (hb hby at_153) kt)
          show own_Fin _ _ _ _ (T62.setTop (mkF m 154 #[.val (.int p1), .val (.int p2), .val (.int p3), .val (.int p4), .val (.int (0 : Int32)), .val (.int (1 : Int32)), .val (.ref mo), .val (.ref sp), .val (.int (21 : Int32)), .val (.int (22 : Int32)), .val (.int n1), .val (.int n2), .val (.ref b49), .val (.ref b53), .val (.int (0 : Int32)), .val (.int (0 : Int32)), .unset, .unset] [(.int (1 : Int32)), (.int (n1 - n2))]))
          refine own_go ?_ (fun tq kt => XS.icmpYes X62.here hx rfl (pc0 := 154) (pc' := 161) rfl (hb hby at_154) rfl (tlt ((hs.2 h21) : (n1 - n2) < (1 : Int32))).1 (by decide) (by decide) kt)
          show own_Fin _ _ _ _ (T62.setTop (mkF m 161 #[.val (.int p1), .val (.int p2), .val (.int p3), .val (.int p4), .val (.int (0 : Int32)), .val (.int (1 : Int32)), .val (.ref mo), .val (.ref sp), .val (.int (21 : Int32)), .val (.int (22 : Int32)), .val (.int n1), .val (.int n2), .val (.ref b49), .val (.ref b53), .val (.int (0 : Int32)), .val (.int (0 : Int32)), .unset, .unset] []))
          refine own_go ?_ (fun tq kt => XS.iconst X62.here hx rfl (hb hby at_161) kt)
          show own_Fin _ _ _ _ (T62.setTop (mkF m 162 #[.val (.int p1), .val (.int p2), .val (.int p3), .val (.int p4), .val (.int (0 : Int32)), .val (.int (1 : Int32)), .val (.ref mo), .val (.ref sp), .val (.int (21 : Int32)), .val (.int (22 : Int32)), .val (.int n1), .val (.int n2), .val (.ref b49), .val (.ref b53), .val (.int (0 : Int32)), .val (.int (0 : Int32)), .unset, .unset] [(.int (0 : Int32))]))
          refine own_go ?_ (fun tq kt => XS.istore X62.here hx rfl (hb hby at_162) rfl (l' := #[.val (.int p1), .val (.int p2), .val (.int p3), .val (.int p4), .val (.int (0 : Int32)), .val (.int (1 : Int32)), .val (.ref mo), .val (.ref sp), .val (.int (21 : Int32)), .val (.int (22 : Int32)), .val (.int n1), .val (.int n2), .val (.ref b49), .val (.ref b53), .val (.int (0 : Int32)), .val (.int (0 : Int32)), .val (.int (0 : Int32)), .unset]) rfl kt)
          show own_Fin _ _ _ _ (T62.setTop (mkF m 164 #[.val (.int p1), .val (.int p2), .val (.int p3), .val (.int p4), .val (.int (0 : Int32)), .val (.int (1 : Int32)), .val (.ref mo), .val (.ref sp), .val (.int (21 : Int32)), .val (.int (22 : Int32)), .val (.int n1), .val (.int n2), .val (.ref b49), .val (.ref b53), .val (.int (0 : Int32)), .val (.int (0 : Int32)), .val (.int (0 : Int32)), .unset] []))
          refine own_go ?_ (fun tq kt => XS.iload X62.here hx rfl (hb hby at_164) rfl kt)
          show own_Fin _ _ _ _ (T62.setTop (mkF m 166 #[.val (.int p1), .val (.int p2), .val (.int p3), .val (.int p4), .val (.int (0 : Int32)), .val (.int (1 : Int32)), .val (.ref mo), .val (.ref sp), .val (.int (21 : Int32)), .val (.int (22 : Int32)), .val (.int n1), .val (.int n2), .val (.ref b49), .val (.ref b53), .val (.int (0 : Int32)), .val (.int (0 : Int32)), .val (.int (0 : Int32)), .unset] [(.int n2)]))
          refine own_go ?_ (fun tq kt => XS.iload X62.here hx rfl (hb hby at_166) rfl kt)
          show own_Fin _ _ _ _ (T62.setTop (mkF m 168 #[.val (.int p1), .val (.int p2), .val (.int p3), .val (.int p4), .val (.int (0 : Int32)), .val (.int (1 : Int32)), .val (.ref mo), .val (.ref sp), .val (.int (21 : Int32)), .val (.int (22 : Int32)), .val (.int n1), .val (.int n2), .val (.ref b49), .val (.ref b53), .val (.int (0 : Int32)), .val (.int (0 : Int32)), .val (.int (0 : Int32)), .unset] [(.int n1), (.int n2)]))
          refine own_go ?_ (fun tq kt => XS.isub X62.here hx rfl (hb hby at_168) rfl kt)
          show own_Fin _ _ _ _ (T62.setTop (mkF m 169 #[.val (.int p1), .val (.int p2), .val (.int p3), .val (.int p4), .val (.int (0 : Int32)), .val (.int (1 : Int32)), .val (.ref mo), .val (.ref sp), .val (.int (21 : Int32)), .val (.int (22 : Int32)), .val (.int n1), .val (.int n2), .val (.ref b49), .val (.ref b53), .val (.int (0 : Int32)), .val (.int (0 : Int32)), .val (.int (0 : Int32)), .unset] [(.int (n2 - n1))]))
          refine own_go ?_ (fun tq kt => XS.iconst X62.here hx rfl (hb hby at_169) kt)
          show own_Fin _ _ _ _ (T62.setTop (mkF m 170 #[.val (.int p1), .val (.int p2), .val (.int p3), .val (.int p4), .val (.int (0 : Int32)), .val (.int (1 : Int32)), .val (.ref mo), .val (.ref sp), .val (.int (21 : Int32)), .val (.int (22 : Int32)), .val (.int n1), .val (.int n2), .val (.ref b49), .val (.ref b53), .val (.int (0 : Int32)), .val (.int (0 : Int32)), .val (.int (0 : Int32)), .unset] [(.int (1 : Int32)), (.int (n2 - n1))]))
          refine own_go ?_ (fun tq kt => XS.icmpYes X62.here hx rfl (pc0 := 170) (pc' := 177) rfl (hb hby at_170) rfl (tlt ((hs'.2 h12) : (n2 - n1) < (1 : Int32))).1 (by decide) (by decide) kt)
          show own_Fin _ _ _ _ (T62.setTop (mkF m 177 #[.val (.int p1), .val (.int p2), .val (.int p3), .val (.int p4), .val (.int (0 : Int32)), .val (.int (1 : Int32)), .val (.ref mo), .val (.ref sp), .val (.int (21 : Int32)), .val (.int (22 : Int32)), .val (.int n1), .val (.int n2), .val (.ref b49), .val (.ref b53), .val (.int (0 : Int32)), .val (.int (0 : Int32)), .val (.int (0 : Int32)), .unset] []))
          refine own_go ?_ (fun tq kt => XS.iconst X62.here hx rfl (hb hby at_177) kt)
          show own_Fin _ _ _ _ (T62.setTop (mkF m 178 #[.val (.int p1), .val (.int p2), .val (.int p3), .val (.int p4), .val (.int (0 : Int32)), .val (.int (1 : Int32)), .val (.ref mo), .val (.ref sp), .val (.int (21 : Int32)), .val (.int (22 : Int32)), .val (.int n1), .val (.int n2), .val (.ref b49), .val (.ref b53), .val (.int (0 : Int32)), .val (.int (0 : Int32)), .val (.int (0 : Int32)), .unset] [(.int (0 : Int32))]))
          refine own_go ?_ (fun tq kt => XS.istore X62.here hx rfl (hb hby at_178) rfl (l' := #[.val (.int p1), .val (.int p2), .val (.int p3), .val (.int p4), .val (.int (0 : Int32)), .val (.int (1 : Int32)), .val (.ref mo), .val (.ref sp), .val (.int (21 : Int32)), .val (.int (22 : Int32)), .val (.int n1), .val (.int n2), .val (.ref b49), .val (.ref b53), .val (.int (0 : Int32)), .val (.int (0 : Int32)), .val (.int (0 : Int32)), .val (.int (0 : Int32))]) rfl kt)
          show own_Fin _ _ _ _ (T62.setTop (mkF m 180 #[.val (.int p1), .val (.int p2), .val (.int p3), .val (.int p4), .val (.int (0 : Int32)), .val (.int (1 : Int32)), .val (.ref mo), .val (.ref sp), .val (.int (21 : Int32)), .val (.int (22 : Int32)), .val (.int n1), .val (.int n2), .val (.ref b49), .val (.ref b53), .val (.int (0 : Int32)), .val (.int (0 : Int32)), .val (.int (0 : Int32)), .val (.int (0 : Int32))] []))
          refine own_go ?_ (fun tq kt => XS.iload X62.here hx rfl (hb hby at_180) rfl kt)
          show own_Fin _ _ _ _ (T62.setTop (mkF m 182 #[.val (.int p1), .val (.int p2), .val (.int p3), .val (.int p4), .val (.int (0 : Int32)), .val (.int (1 : Int32)), .val (.ref mo), .val (.ref sp), .val (.int (21 : Int32)), .val (.int (22 : Int32)), .val (.int n1), .val (.int n2), .val (.ref b49), .val (.ref b53), .val (.int (0 : Int32)), .val (.int (0 : Int32)), .val (.int (0 : Int32)), .val (.int (0 : Int32))] [(.int (0 : Int32))]))
          refine own_go ?_ (fun tq kt => XS.iload X62.here hx rfl (hb hby at_182) rfl kt)
          show own_Fin _ _ _ _ (T62.setTop (mkF m 184 #[.val (.int p1), .val (.int p2), .val (.int p3), .val (.int p4), .val (.int (0 : Int32)), .val (.int (1 : Int32)), .val (.ref mo), .val (.ref sp), .val (.int (21 : Int32)), .val (.int (22 : Int32)), .val (.int n1), .val (.int n2), .val (.ref b49), .val (.ref b53), .val (.int (0 : Int32)), .val (.int (0 : Int32)), .val (.int (0 : Int32)), .val (.int (0 : Int32))] [(.int (0 : Int32)), (.int (0 : Int32))]))
          refine own_go ?_ (fun tq kt => XS.icmpNo X62.here hx rfl (hb hby at_184) rfl (teq (rfl : (0 : Int32) = (0 : Int32))).2 kt)
          show own_Fin _ _ _ _ (T62.setTop (mkF m 187 #[.val (.int p1), .val (.int p2), .val (.int p3), .val (.int p4), .val (.int (0 : Int32)), .val (.int (1 : Int32)), .val (.ref mo), .val (.ref sp), .val (.int (21 : Int32)), .val (.int (22 : Int32)), .val (.int n1), .val (.int n2), .val (.ref b49), .val (.ref b53), .val (.int (0 : Int32)), .val (.int (0 : Int32)), .val (.int (0 : Int32)), .val (.int (0 : Int32))] []))
          refine own_go ?_ (fun tq kt => XS.iload X62.here hx rfl (hb hby at_187) rfl kt)
          show own_Fin _ _ _ _ (T62.setTop (mkF m 189 #[.val (.int p1), .val (.int p2), .val (.int p3), .val (.int p4), .val (.int (0 : Int32)), .val (.int (1 : Int32)), .val (.ref mo), .val (.ref sp), .val (.int (21 : Int32)), .val (.int (22 : Int32)), .val (.int n1), .val (.int n2), .val (.ref b49), .val (.ref b53), .val (.int (0 : Int32)), .val (.int (0 : Int32)), .val (.int (0 : Int32)), .val (.int (0 : Int32))] [(.int (0 : Int32))]))
          refine own_go ?_ (fun tq kt => XS.iload X62.here hx rfl (hb hby at_189) rfl kt)
          show own_Fin _ _ _ _ (T62.setTop (mkF m 191 #[.val (.int p1), .val (.int p2), .val (.int p3), .val (.int p4), .val (.int (0 : Int32)), .val (.int (1 : Int32)), .val (.ref mo), .val (.ref sp), .val (.int (21 : Int32)), .val (.int (22 : Int32)), .val (.int n1), .val (.int n2), .val (.ref b49), .val (.ref b53), .val (.int (0 : Int32)), .val (.int (0 : Int32)), .val (.int (0 : Int32)), .val (.int (0 : Int32))] [(.int (0 : Int32)), (.int (0 : Int32))]))
          refine own_go ?_ (fun tq kt => XS.icmpNo X62.here hx rfl (hb hby at_191) rfl (teq (rfl : (0 : Int32) = (0 : Int32))).2 kt)
          show own_Fin _ _ _ _ (T62.setTop (mkF m 194 #[.val (.int p1), .val (.int p2), .val (.int p3), .val (.int p4), .val (.int (0 : Int32)), .val (.int (1 : Int32)), .val (.ref mo), .val (.ref sp), .val (.int (21 : Int32)), .val (.int (22 : Int32)), .val (.int n1), .val (.int n2), .val (.ref b49), .val (.ref b53), .val (.int (0 : Int32)), .val (.int (0 : Int32)), .val (.int (0 : Int32)), .val (.int (0 : Int32))] []))
          refine own_go ?_ (fun tq kt => XS.iconst X62.here hx rfl (hb hby at_194) kt)
          show own_Fin _ _ _ _ (T62.setTop (mkF m 195 #[.val (.int p1), .val (.int p2), .val (.int p3), .val (.int p4), .val (.int (0 : Int32)), .val (.int (1 : Int32)), .val (.ref mo), .val (.ref sp), .val (.int (21 : Int32)), .val (.int (22 : Int32)), .val (.int n1), .val (.int n2), .val (.ref b49), .val (.ref b53), .val (.int (0 : Int32)), .val (.int (0 : Int32)), .val (.int (0 : Int32)), .val (.int (0 : Int32))] [(.int (1 : Int32))]))
          refine own_go ?_ (fun tq kt => XS.goto X62.here hx rfl (pc0 := 195) (pc' := 199) rfl (hb hby at_195) (by decide) (by decide) kt)
          show own_Fin _ _ _ _ (T62.setTop (mkF m 199 #[.val (.int p1), .val (.int p2), .val (.int p3), .val (.int p4), .val (.int (0 : Int32)), .val (.int (1 : Int32)), .val (.ref mo), .val (.ref sp), .val (.int (21 : Int32)), .val (.int (22 : Int32)), .val (.int n1), .val (.int n2), .val (.ref b49), .val (.ref b53), .val (.int (0 : Int32)), .val (.int (0 : Int32)), .val (.int (0 : Int32)), .val (.int (0 : Int32))] [(.int (1 : Int32))]))
          refine own_retN X62 hx (t := .boolean) Bd.returns (by simp) (hb hby at_199) hlk ?_ (by decide) (by decide)
          exact ⟨rfl, N62⟩
    · refine own_go ?_ (fun tq kt => XS.ifYes X0.here hx rfl (pc0 := 16) (pc' := 23) rfl (hb hby at_16) rfl ((if0 _ _).trans (feq (hc16_46 : ¬ ((p3 &&& (1 : Int32)) = (0 : Int32)))).2) (by decide) (by decide) kt)
      show own_Fin _ _ _ _ (s₁.setTop (mkF m 23 #[.val (.int p1), .val (.int p2), .val (.int p3), .val (.int p4), .val (.int (0 : Int32)), .unset, .unset, .unset, .unset, .unset, .unset, .unset, .unset, .unset, .unset, .unset, .unset, .unset] []))
      refine own_go ?_ (fun tq kt => XS.iconst X0.here hx rfl (hb hby at_23) kt)
      show own_Fin _ _ _ _ (s₁.setTop (mkF m 24 #[.val (.int p1), .val (.int p2), .val (.int p3), .val (.int p4), .val (.int (0 : Int32)), .unset, .unset, .unset, .unset, .unset, .unset, .unset, .unset, .unset, .unset, .unset, .unset, .unset] [(.int (0 : Int32))]))
      refine own_go ?_ (fun tq kt => XS.istore X0.here hx rfl (hb hby at_24) rfl (l' := #[.val (.int p1), .val (.int p2), .val (.int p3), .val (.int p4), .val (.int (0 : Int32)), .val (.int (0 : Int32)), .unset, .unset, .unset, .unset, .unset, .unset, .unset, .unset, .unset, .unset, .unset, .unset]) rfl kt)
      show own_Fin _ _ _ _ (s₁.setTop (mkF m 26 #[.val (.int p1), .val (.int p2), .val (.int p3), .val (.int p4), .val (.int (0 : Int32)), .val (.int (0 : Int32)), .unset, .unset, .unset, .unset, .unset, .unset, .unset, .unset, .unset, .unset, .unset, .unset] []))
      refine own_go ?_ (fun tq kt => XS.iload X0.here hx rfl (hb hby at_26) rfl kt)
      show own_Fin _ _ _ _ (s₁.setTop (mkF m 28 #[.val (.int p1), .val (.int p2), .val (.int p3), .val (.int p4), .val (.int (0 : Int32)), .val (.int (0 : Int32)), .unset, .unset, .unset, .unset, .unset, .unset, .unset, .unset, .unset, .unset, .unset, .unset] [(.int (0 : Int32))]))
      refine own_go ?_ (fun tq kt => XS.ifYes X0.here hx rfl (pc0 := 28) (pc' := 37) rfl (hb hby at_28) rfl ((if0 _ _).trans (teq (rfl : (0 : Int32) = (0 : Int32))).1) (by decide) (by decide) kt)
      show own_Fin _ _ _ _ (s₁.setTop (mkF m 37 #[.val (.int p1), .val (.int p2), .val (.int p3), .val (.int p4), .val (.int (0 : Int32)), .val (.int (0 : Int32)), .unset, .unset, .unset, .unset, .unset, .unset, .unset, .unset, .unset, .unset, .unset, .unset] []))
      obtain ⟨T63, X63, e63, st63⟩ := getS2 X0 hx hZ hown (host := "") (Or.inl (hw _ (List.mem_of_getElem? (i := 41) rfl))) Via.refl e0 (mSt.ext O0.2) (g := (mkF m 37 #[.val (.int p1), .val (.int p2), .val (.int p3), .val (.int p4), .val (.int (0 : Int32)), .val (.int (0 : Int32)), .unset, .unset, .unset, .unset, .unset, .unset, .unset, .unset, .unset, .unset, .unset, .unset] [])) rfl (hb hby at_37)
      refine own_go ?_ (fun tq kt => st63 _ kt)
      show own_Fin _ _ _ _ (T63.setTop (mkF m 40 #[.val (.int p1), .val (.int p2), .val (.int p3), .val (.int p4), .val (.int (0 : Int32)), .val (.int (0 : Int32)), .unset, .unset, .unset, .unset, .unset, .unset, .unset, .unset, .unset, .unset, .unset, .unset] [(.ref mo)]))
      refine own_go ?_ (fun tq kt => XS.astore X63.here hx rfl (hb hby at_40) rfl rfl (l' := #[.val (.int p1), .val (.int p2), .val (.int p3), .val (.int p4), .val (.int (0 : Int32)), .val (.int (0 : Int32)), .val (.ref mo), .unset, .unset, .unset, .unset, .unset, .unset, .unset, .unset, .unset, .unset, .unset]) rfl kt)
      show own_Fin _ _ _ _ (T63.setTop (mkF m 42 #[.val (.int p1), .val (.int p2), .val (.int p3), .val (.int p4), .val (.int (0 : Int32)), .val (.int (0 : Int32)), .val (.ref mo), .unset, .unset, .unset, .unset, .unset, .unset, .unset, .unset, .unset, .unset, .unset] []))
      refine own_go ?_ (fun tq kt => XS.iload X63.here hx rfl (hb hby at_42) rfl kt)
      show own_Fin _ _ _ _ (T63.setTop (mkF m 44 #[.val (.int p1), .val (.int p2), .val (.int p3), .val (.int p4), .val (.int (0 : Int32)), .val (.int (0 : Int32)), .val (.ref mo), .unset, .unset, .unset, .unset, .unset, .unset, .unset, .unset, .unset, .unset, .unset] [(.int (0 : Int32))]))
      refine own_go ?_ (fun tq kt => XS.ifYes X63.here hx rfl (pc0 := 44) (pc' := 53) rfl (hb hby at_44) rfl ((if0 _ _).trans (teq (rfl : (0 : Int32) = (0 : Int32))).1) (by decide) (by decide) kt)
      show own_Fin _ _ _ _ (T63.setTop (mkF m 53 #[.val (.int p1), .val (.int p2), .val (.int p3), .val (.int p4), .val (.int (0 : Int32)), .val (.int (0 : Int32)), .val (.ref mo), .unset, .unset, .unset, .unset, .unset, .unset, .unset, .unset, .unset, .unset, .unset] []))
      obtain ⟨T64, X64, e64, st64⟩ := getS2 X63 hx hZ hown (host := "") (Or.inl (hw _ (List.mem_of_getElem? (i := 41) rfl))) Via.refl e63 (mSt.ext O0.2) (g := (mkF m 53 #[.val (.int p1), .val (.int p2), .val (.int p3), .val (.int p4), .val (.int (0 : Int32)), .val (.int (0 : Int32)), .val (.ref mo), .unset, .unset, .unset, .unset, .unset, .unset, .unset, .unset, .unset, .unset, .unset] [])) rfl (hb hby at_53)
      refine own_go ?_ (fun tq kt => st64 _ kt)
      show own_Fin _ _ _ _ (T64.setTop (mkF m 56 #[.val (.int p1), .val (.int p2), .val (.int p3), .val (.int p4), .val (.int (0 : Int32)), .val (.int (0 : Int32)), .val (.ref mo), .unset, .unset, .unset, .unset, .unset, .unset, .unset, .unset, .unset, .unset, .unset] [(.ref mo)]))
      refine own_go ?_ (fun tq kt => XS.astore X64.here hx rfl (hb hby at_56) rfl rfl (l' := #[.val (.int p1), .val (.int p2), .val (.int p3), .val (.int p4), .val (.int (0 : Int32)), .val (.int (0 : Int32)), .val (.ref mo), .val (.ref mo), .unset, .unset, .unset, .unset, .unset, .unset, .unset, .unset, .unset, .unset]) rfl kt)
      show own_Fin _ _ _ _ (T64.setTop (mkF m 58 #[.val (.int p1), .val (.int p2), .val (.int p3), .val (.int p4), .val (.int (0 : Int32)), .val (.int (0 : Int32)), .val (.ref mo), .val (.ref mo), .unset, .unset, .unset, .unset, .unset, .unset, .unset, .unset, .unset, .unset] []))
      refine own_go ?_ (fun tq kt => XS.iload X64.here hx rfl (hb hby at_58) rfl kt)
      show own_Fin _ _ _ _ (T64.setTop (mkF m 60 #[.val (.int p1), .val (.int p2), .val (.int p3), .val (.int p4), .val (.int (0 : Int32)), .val (.int (0 : Int32)), .val (.ref mo), .val (.ref mo), .unset, .unset, .unset, .unset, .unset, .unset, .unset, .unset, .unset, .unset] [(.int (0 : Int32))]))
      refine own_go ?_ (fun tq kt => XS.ifYes X64.here hx rfl (pc0 := 60) (pc' := 68) rfl (hb hby at_60) rfl ((if0 _ _).trans (teq (rfl : (0 : Int32) = (0 : Int32))).1) (by decide) (by decide) kt)
      show own_Fin _ _ _ _ (T64.setTop (mkF m 68 #[.val (.int p1), .val (.int p2), .val (.int p3), .val (.int p4), .val (.int (0 : Int32)), .val (.int (0 : Int32)), .val (.ref mo), .val (.ref mo), .unset, .unset, .unset, .unset, .unset, .unset, .unset, .unset, .unset, .unset] []))
      refine own_go ?_ (fun tq kt => XS.bipush X64.here hx rfl (hb hby at_68) kt)
      show own_Fin _ _ _ _ (T64.setTop (mkF m 70 #[.val (.int p1), .val (.int p2), .val (.int p3), .val (.int p4), .val (.int (0 : Int32)), .val (.int (0 : Int32)), .val (.ref mo), .val (.ref mo), .unset, .unset, .unset, .unset, .unset, .unset, .unset, .unset, .unset, .unset] [(.int (21 : Int32))]))
      refine own_go ?_ (fun tq kt => XS.istore X64.here hx rfl (hb hby at_70) rfl (l' := #[.val (.int p1), .val (.int p2), .val (.int p3), .val (.int p4), .val (.int (0 : Int32)), .val (.int (0 : Int32)), .val (.ref mo), .val (.ref mo), .val (.int (21 : Int32)), .unset, .unset, .unset, .unset, .unset, .unset, .unset, .unset, .unset]) rfl kt)
      show own_Fin _ _ _ _ (T64.setTop (mkF m 72 #[.val (.int p1), .val (.int p2), .val (.int p3), .val (.int p4), .val (.int (0 : Int32)), .val (.int (0 : Int32)), .val (.ref mo), .val (.ref mo), .val (.int (21 : Int32)), .unset, .unset, .unset, .unset, .unset, .unset, .unset, .unset, .unset] []))
      refine own_go ?_ (fun tq kt => XS.iload X64.here hx rfl (hb hby at_72) rfl kt)
      show own_Fin _ _ _ _ (T64.setTop (mkF m 74 #[.val (.int p1), .val (.int p2), .val (.int p3), .val (.int p4), .val (.int (0 : Int32)), .val (.int (0 : Int32)), .val (.ref mo), .val (.ref mo), .val (.int (21 : Int32)), .unset, .unset, .unset, .unset, .unset, .unset, .unset, .unset, .unset] [(.int (0 : Int32))]))
      refine own_go ?_ (fun tq kt => XS.ifYes X64.here hx rfl (pc0 := 74) (pc' := 82) rfl (hb hby at_74) rfl ((if0 _ _).trans (teq (rfl : (0 : Int32) = (0 : Int32))).1) (by decide) (by decide) kt)
      show own_Fin _ _ _ _ (T64.setTop (mkF m 82 #[.val (.int p1), .val (.int p2), .val (.int p3), .val (.int p4), .val (.int (0 : Int32)), .val (.int (0 : Int32)), .val (.ref mo), .val (.ref mo), .val (.int (21 : Int32)), .unset, .unset, .unset, .unset, .unset, .unset, .unset, .unset, .unset] []))
      refine own_go ?_ (fun tq kt => XS.bipush X64.here hx rfl (hb hby at_82) kt)
      show own_Fin _ _ _ _ (T64.setTop (mkF m 84 #[.val (.int p1), .val (.int p2), .val (.int p3), .val (.int p4), .val (.int (0 : Int32)), .val (.int (0 : Int32)), .val (.ref mo), .val (.ref mo), .val (.int (21 : Int32)), .unset, .unset, .unset, .unset, .unset, .unset, .unset, .unset, .unset] [(.int (21 : Int32))]))
      refine own_go ?_ (fun tq kt => XS.istore X64.here hx rfl (hb hby at_84) rfl (l' := #[.val (.int p1), .val (.int p2), .val (.int p3), .val (.int p4), .val (.int (0 : Int32)), .val (.int (0 : Int32)), .val (.ref mo), .val (.ref mo), .val (.int (21 : Int32)), .val (.int (21 : Int32)), .unset, .unset, .unset, .unset, .unset, .unset, .unset, .unset]) rfl kt)
      show own_Fin _ _ _ _ (T64.setTop (mkF m 86 #[.val (.int p1), .val (.int p2), .val (.int p3), .val (.int p4), .val (.int (0 : Int32)), .val (.int (0 : Int32)), .val (.ref mo), .val (.ref mo), .val (.int (21 : Int32)), .val (.int (21 : Int32)), .unset, .unset, .unset, .unset, .unset, .unset, .unset, .unset] []))
      refine own_go ?_ (fun tq kt => XS.iloadN X64.here hx rfl (hb hby at_86) rfl kt)
      show own_Fin _ _ _ _ (T64.setTop (mkF m 87 #[.val (.int p1), .val (.int p2), .val (.int p3), .val (.int p4), .val (.int (0 : Int32)), .val (.int (0 : Int32)), .val (.ref mo), .val (.ref mo), .val (.int (21 : Int32)), .val (.int (21 : Int32)), .unset, .unset, .unset, .unset, .unset, .unset, .unset, .unset] [(.int p2)]))
      refine own_go ?_ (fun tq kt => X64.ldcInt hx hown (mvT hZ (hw _ (List.mem_of_getElem? (i := 3) rfl))) (g := (mkF m 87 #[.val (.int p1), .val (.int p2), .val (.int p3), .val (.int p4), .val (.int (0 : Int32)), .val (.int (0 : Int32)), .val (.ref mo), .val (.ref mo), .val (.int (21 : Int32)), .val (.int (21 : Int32)), .unset, .unset, .unset, .unset, .unset, .unset, .unset, .unset] [(.int p2)])) rfl (hb hby at_87) _ kt)
      show own_Fin _ _ _ _ (T64.setTop (mkF m 89 #[.val (.int p1), .val (.int p2), .val (.int p3), .val (.int p4), .val (.int (0 : Int32)), .val (.int (0 : Int32)), .val (.ref mo), .val (.ref mo), .val (.int (21 : Int32)), .val (.int (21 : Int32)), .unset, .unset, .unset, .unset, .unset, .unset, .unset, .unset] [(.int (2147483647 : Int32)), (.int p2)]))
      refine own_go ?_ (fun tq kt => XS.iand X64.here hx rfl (hb hby at_89) rfl kt)
      show own_Fin _ _ _ _ (T64.setTop (mkF m 90 #[.val (.int p1), .val (.int p2), .val (.int p3), .val (.int p4), .val (.int (0 : Int32)), .val (.int (0 : Int32)), .val (.ref mo), .val (.ref mo), .val (.int (21 : Int32)), .val (.int (21 : Int32)), .unset, .unset, .unset, .unset, .unset, .unset, .unset, .unset] [(.int (p2 &&& (2147483647 : Int32)))]))
      refine own_go ?_ (fun tq kt => XS.iload X64.here hx rfl (hb hby at_90) rfl kt)
      show own_Fin _ _ _ _ (T64.setTop (mkF m 92 #[.val (.int p1), .val (.int p2), .val (.int p3), .val (.int p4), .val (.int (0 : Int32)), .val (.int (0 : Int32)), .val (.ref mo), .val (.ref mo), .val (.int (21 : Int32)), .val (.int (21 : Int32)), .unset, .unset, .unset, .unset, .unset, .unset, .unset, .unset] [(.int (21 : Int32)), (.int (p2 &&& (2147483647 : Int32)))]))
      refine own_go ?_ (fun tq kt => iremM X64 hx rfl (hb hby at_92) rfl (by decide) kt)
      show own_Fin _ _ _ _ (T64.setTop (mkF m 93 #[.val (.int p1), .val (.int p2), .val (.int p3), .val (.int p4), .val (.int (0 : Int32)), .val (.int (0 : Int32)), .val (.ref mo), .val (.ref mo), .val (.int (21 : Int32)), .val (.int (21 : Int32)), .unset, .unset, .unset, .unset, .unset, .unset, .unset, .unset] [(.int ((p2 &&& (2147483647 : Int32)) % (21 : Int32)))]))
      refine own_go ?_ (fun tq kt => XS.istore X64.here hx rfl (hb hby at_93) rfl (l' := #[.val (.int p1), .val (.int p2), .val (.int p3), .val (.int p4), .val (.int (0 : Int32)), .val (.int (0 : Int32)), .val (.ref mo), .val (.ref mo), .val (.int (21 : Int32)), .val (.int (21 : Int32)), .val (.int ((p2 &&& (2147483647 : Int32)) % (21 : Int32))), .unset, .unset, .unset, .unset, .unset, .unset, .unset]) rfl kt)
      show own_Fin _ _ _ _ (T64.setTop (mkF m 95 #[.val (.int p1), .val (.int p2), .val (.int p3), .val (.int p4), .val (.int (0 : Int32)), .val (.int (0 : Int32)), .val (.ref mo), .val (.ref mo), .val (.int (21 : Int32)), .val (.int (21 : Int32)), .val (.int ((p2 &&& (2147483647 : Int32)) % (21 : Int32))), .unset, .unset, .unset, .unset, .unset, .unset, .unset] []))
      refine own_go ?_ (fun tq kt => XS.iloadN X64.here hx rfl (hb hby at_95) rfl kt)
      show own_Fin _ _ _ _ (T64.setTop (mkF m 96 #[.val (.int p1), .val (.int p2), .val (.int p3), .val (.int p4), .val (.int (0 : Int32)), .val (.int (0 : Int32)), .val (.ref mo), .val (.ref mo), .val (.int (21 : Int32)), .val (.int (21 : Int32)), .val (.int ((p2 &&& (2147483647 : Int32)) % (21 : Int32))), .unset, .unset, .unset, .unset, .unset, .unset, .unset] [(.int p4)]))
      refine own_go ?_ (fun tq kt => X64.ldcInt hx hown (mvT hZ (hw _ (List.mem_of_getElem? (i := 3) rfl))) (g := (mkF m 96 #[.val (.int p1), .val (.int p2), .val (.int p3), .val (.int p4), .val (.int (0 : Int32)), .val (.int (0 : Int32)), .val (.ref mo), .val (.ref mo), .val (.int (21 : Int32)), .val (.int (21 : Int32)), .val (.int ((p2 &&& (2147483647 : Int32)) % (21 : Int32))), .unset, .unset, .unset, .unset, .unset, .unset, .unset] [(.int p4)])) rfl (hb hby at_96) _ kt)
      show own_Fin _ _ _ _ (T64.setTop (mkF m 98 #[.val (.int p1), .val (.int p2), .val (.int p3), .val (.int p4), .val (.int (0 : Int32)), .val (.int (0 : Int32)), .val (.ref mo), .val (.ref mo), .val (.int (21 : Int32)), .val (.int (21 : Int32)), .val (.int ((p2 &&& (2147483647 : Int32)) % (21 : Int32))), .unset, .unset, .unset, .unset, .unset, .unset, .unset] [(.int (2147483647 : Int32)), (.int p4)]))
      refine own_go ?_ (fun tq kt => XS.iand X64.here hx rfl (hb hby at_98) rfl kt)
      show own_Fin _ _ _ _ (T64.setTop (mkF m 99 #[.val (.int p1), .val (.int p2), .val (.int p3), .val (.int p4), .val (.int (0 : Int32)), .val (.int (0 : Int32)), .val (.ref mo), .val (.ref mo), .val (.int (21 : Int32)), .val (.int (21 : Int32)), .val (.int ((p2 &&& (2147483647 : Int32)) % (21 : Int32))), .unset, .unset, .unset, .unset, .unset, .unset, .unset] [(.int (p4 &&& (2147483647 : Int32)))]))
      refine own_go ?_ (fun tq kt => XS.iload X64.here hx rfl (hb hby at_99) rfl kt)
      show own_Fin _ _ _ _ (T64.setTop (mkF m 101 #[.val (.int p1), .val (.int p2), .val (.int p3), .val (.int p4), .val (.int (0 : Int32)), .val (.int (0 : Int32)), .val (.ref mo), .val (.ref mo), .val (.int (21 : Int32)), .val (.int (21 : Int32)), .val (.int ((p2 &&& (2147483647 : Int32)) % (21 : Int32))), .unset, .unset, .unset, .unset, .unset, .unset, .unset] [(.int (21 : Int32)), (.int (p4 &&& (2147483647 : Int32)))]))
      refine own_go ?_ (fun tq kt => iremM X64 hx rfl (hb hby at_101) rfl (by decide) kt)
      show own_Fin _ _ _ _ (T64.setTop (mkF m 102 #[.val (.int p1), .val (.int p2), .val (.int p3), .val (.int p4), .val (.int (0 : Int32)), .val (.int (0 : Int32)), .val (.ref mo), .val (.ref mo), .val (.int (21 : Int32)), .val (.int (21 : Int32)), .val (.int ((p2 &&& (2147483647 : Int32)) % (21 : Int32))), .unset, .unset, .unset, .unset, .unset, .unset, .unset] [(.int ((p4 &&& (2147483647 : Int32)) % (21 : Int32)))]))
      refine own_go ?_ (fun tq kt => XS.istore X64.here hx rfl (hb hby at_102) rfl (l' := #[.val (.int p1), .val (.int p2), .val (.int p3), .val (.int p4), .val (.int (0 : Int32)), .val (.int (0 : Int32)), .val (.ref mo), .val (.ref mo), .val (.int (21 : Int32)), .val (.int (21 : Int32)), .val (.int ((p2 &&& (2147483647 : Int32)) % (21 : Int32))), .val (.int ((p4 &&& (2147483647 : Int32)) % (21 : Int32))), .unset, .unset, .unset, .unset, .unset, .unset]) rfl kt)
      show own_Fin _ _ _ _ (T64.setTop (mkF m 104 #[.val (.int p1), .val (.int p2), .val (.int p3), .val (.int p4), .val (.int (0 : Int32)), .val (.int (0 : Int32)), .val (.ref mo), .val (.ref mo), .val (.int (21 : Int32)), .val (.int (21 : Int32)), .val (.int ((p2 &&& (2147483647 : Int32)) % (21 : Int32))), .val (.int ((p4 &&& (2147483647 : Int32)) % (21 : Int32))), .unset, .unset, .unset, .unset, .unset, .unset] []))
      have Bn1 := own_rem21 p2
      have Bn2 := own_rem21 p4
      generalize ((p2 &&& (2147483647 : Int32)) % (21 : Int32)) = n1 at Bn1 ⊢
      generalize ((p4 &&& (2147483647 : Int32)) % (21 : Int32)) = n2 at Bn2 ⊢
      show own_Fin _ _ _ _ (T64.setTop (mkF m 104 #[.val (.int p1), .val (.int p2), .val (.int p3), .val (.int p4), .val (.int (0 : Int32)), .val (.int (0 : Int32)), .val (.ref mo), .val (.ref mo), .val (.int (21 : Int32)), .val (.int (21 : Int32)), .val (.int n1), .val (.int n2), .unset, .unset, .unset, .unset, .unset, .unset] []))
      obtain ⟨T65, h65, X65, e65, E65, A65, D65, -, st65⟩ := newO X64 hx hZ hown (hw _ (List.mem_of_getElem? (i := 4) rfl)) (hw _ (List.mem_of_getElem? (i := 5) rfl)) (hw _ (List.mem_of_getElem? (i := 6) rfl)) e64 (g := (mkF m 104 #[.val (.int p1), .val (.int p2), .val (.int p3), .val (.int p4), .val (.int (0 : Int32)), .val (.int (0 : Int32)), .val (.ref mo), .val (.ref mo), .val (.int (21 : Int32)), .val (.int (21 : Int32)), .val (.int n1), .val (.int n2), .unset, .unset, .unset, .unset, .unset, .unset] [])) rfl (hb hby at_104) (by decide) (by decide)
      obtain ⟨b65, g65⟩ : ∃ z, z = h0.size := ⟨_, rfl⟩
      rw [← g65] at A65 D65 st65
      have zs66 := Nat.le_trans Z0 E65.1
      have od66 := O0.ext E65
      have g_b65 : n0 ≤ b65 := Nat.le_trans Z0 (Nat.le_of_eq g65.symm)
      have F65_agency : Fld Z h65 b65 "com/example/ballast_ledger/ballastledger/CreditRating" "agency" "Lcom/example/ballast_ledger/ballastledger/CreditRating$Agency;" .null := D65 (Or.inr (hw _ (List.mem_of_getElem? (i := 33) rfl))) (ty := (.object "com/example/ballast_ledger/ballastledger/CreditRating$Agency")) (by decide)
      have F65_notch : Fld Z h65 b65 "com/example/ballast_ledger/ballastledger/CreditRating" "notch" "I" (.int (0 : Int32)) := D65 (Or.inr (hw _ (List.mem_of_getElem? (i := 35) rfl))) (ty := .int) (by decide)
      refine own_go ?_ (fun tq kt => st65 _ kt)
      show own_Fin _ _ _ _ (T65.setTop (mkF m 107 #[.val (.int p1), .val (.int p2), .val (.int p3), .val (.int p4), .val (.int (0 : Int32)), .val (.int (0 : Int32)), .val (.ref mo), .val (.ref mo), .val (.int (21 : Int32)), .val (.int (21 : Int32)), .val (.int n1), .val (.int n2), .unset, .unset, .unset, .unset, .unset, .unset] [(.ref b65)]))
      refine own_go ?_ (fun tq kt => XS.dup X65.here hx rfl (hb hby at_107) rfl rfl kt)
      show own_Fin _ _ _ _ (T65.setTop (mkF m 108 #[.val (.int p1), .val (.int p2), .val (.int p3), .val (.int p4), .val (.int (0 : Int32)), .val (.int (0 : Int32)), .val (.ref mo), .val (.ref mo), .val (.int (21 : Int32)), .val (.int (21 : Int32)), .val (.int n1), .val (.int n2), .unset, .unset, .unset, .unset, .unset, .unset] [(.ref b65), (.ref b65)]))
      refine own_go ?_ (fun tq kt => XS.aload X65.here hx rfl (hb hby at_108) rfl rfl kt)
      show own_Fin _ _ _ _ (T65.setTop (mkF m 110 #[.val (.int p1), .val (.int p2), .val (.int p3), .val (.int p4), .val (.int (0 : Int32)), .val (.int (0 : Int32)), .val (.ref mo), .val (.ref mo), .val (.int (21 : Int32)), .val (.int (21 : Int32)), .val (.int n1), .val (.int n2), .unset, .unset, .unset, .unset, .unset, .unset] [(.ref mo), (.ref b65), (.ref b65)]))
      refine own_go ?_ (fun tq kt => XS.iload X65.here hx rfl (hb hby at_110) rfl kt)
      show own_Fin _ _ _ _ (T65.setTop (mkF m 112 #[.val (.int p1), .val (.int p2), .val (.int p3), .val (.int p4), .val (.int (0 : Int32)), .val (.int (0 : Int32)), .val (.ref mo), .val (.ref mo), .val (.int (21 : Int32)), .val (.int (21 : Int32)), .val (.int n1), .val (.int n2), .unset, .unset, .unset, .unset, .unset, .unset] [(.int n1), (.ref mo), (.ref b65), (.ref b65)]))
      obtain ⟨_, _, ⟨T67, L67, k67, n67⟩, -, X67, ⟨Lc67, hQ67, l67, y67, z67⟩, st67⟩ := X65.specialBack hx (y := (⟨"com/example/ballast_ledger/ballastledger/CreditRating", "<init>", "(Lcom/example/ballast_ledger/ballastledger/CreditRating$Agency;I)V"⟩ : MethodName)) rfl hown (mvT hZ (hw _ (List.mem_of_getElem? (i := 7) rfl))) (mvT hZ (hw _ (List.mem_of_getElem? (i := 8) rfl))) (mvT hZ (hw _ (List.mem_of_getElem? (i := 9) rfl))) (by decide) (backOf (W := 1) (rm1 l Z a0 hw [] b65 mo n1 msc mel mcl (21 : Int32) h65 n0 zs66 od66 A65 F65_agency F65_notch g_b65 mFS mES mFE mAR mAS mAM Bn1.1 Bn1.2) hZ (hw _ (List.mem_of_getElem? (i := 9) rfl)) (hw _ (List.mem_of_getElem? (i := 6) rfl)) (by decide) (by decide)) (g := (mkF m 112 #[.val (.int p1), .val (.int p2), .val (.int p3), .val (.int p4), .val (.int (0 : Int32)), .val (.int (0 : Int32)), .val (.ref mo), .val (.ref mo), .val (.int (21 : Int32)), .val (.int (21 : Int32)), .val (.int n1), .val (.int n2), .unset, .unset, .unset, .unset, .unset, .unset] [(.int n1), (.ref mo), (.ref b65), (.ref b65)])) rfl (by rw [hml]; rfl) (Steps.refl _) (a := b65) (argsL := [(.ref mo), (.int n1)]) (rest := [(.ref b65)]) (lenOf own_pd2 rfl) rfl (by show 2 * 0 + _ ≤ _; exact Nat.le_of_eq rfl) (hb hby at_112) (fun _ _ => ⟨rfl, e65, (by decide : 1 + 0 ≤ _), (by decide : 2 + 0 ≤ _)⟩)
      dsimp only [Pt.U, Pt.locs, Pt.cells, Pt.slots] at X67 l67 y67 z67 st67 hQ67
      subst l67 y67 z67
      obtain ⟨rfl, N67q, K67, F67⟩ := hQ67
      have N67 := Fr.app N0 N67q
      obtain ⟨h67, e67⟩ : ∃ z, z = T67.heap := ⟨_, rfl⟩
      have e67' := e67.symm
      rw [← e67] at K67 F67
      have zs68 := Nat.le_trans zs66 K67.1
      have od68 := od66.keep K67 (allS g_b65 all0)
      refine own_go ?_ (fun tq kt => st67.trans kt)
      show own_Fin _ _ _ _ (T67.setTop (mkF m 115 #[.val (.int p1), .val (.int p2), .val (.int p3), .val (.int p4), .val (.int (0 : Int32)), .val (.int (0 : Int32)), .val (.ref mo), .val (.ref mo), .val (.int (21 : Int32)), .val (.int (21 : Int32)), .val (.int n1), .val (.int n2), .unset, .unset, .unset, .unset, .unset, .unset] [(.ref b65)]))
      refine own_go ?_ (fun tq kt => XS.astore X67.here hx rfl (hb hby at_115) rfl rfl (l' := #[.val (.int p1), .val (.int p2), .val (.int p3), .val (.int p4), .val (.int (0 : Int32)), .val (.int (0 : Int32)), .val (.ref mo), .val (.ref mo), .val (.int (21 : Int32)), .val (.int (21 : Int32)), .val (.int n1), .val (.int n2), .val (.ref b65), .unset, .unset, .unset, .unset, .unset]) rfl kt)
      show own_Fin _ _ _ _ (T67.setTop (mkF m 117 #[.val (.int p1), .val (.int p2), .val (.int p3), .val (.int p4), .val (.int (0 : Int32)), .val (.int (0 : Int32)), .val (.ref mo), .val (.ref mo), .val (.int (21 : Int32)), .val (.int (21 : Int32)), .val (.int n1), .val (.int n2), .val (.ref b65), .unset, .unset, .unset, .unset, .unset] []))
      obtain ⟨T69, h69, X69, e69, E69, A69, D69, -, st69⟩ := newO X67 hx hZ hown (hw _ (List.mem_of_getElem? (i := 4) rfl)) (hw _ (List.mem_of_getElem? (i := 5) rfl)) (hw _ (List.mem_of_getElem? (i := 6) rfl)) e67' (g := (mkF m 117 #[.val (.int p1), .val (.int p2), .val (.int p3), .val (.int p4), .val (.int (0 : Int32)), .val (.int (0 : Int32)), .val (.ref mo), .val (.ref mo), .val (.int (21 : Int32)), .val (.int (21 : Int32)), .val (.int n1), .val (.int n2), .val (.ref b65), .unset, .unset, .unset, .unset, .unset] [])) rfl (hb hby at_117) (by decide) (by decide)
      obtain ⟨b69, g69⟩ : ∃ z, z = h67.size := ⟨_, rfl⟩
      rw [← g69] at A69 D69 st69
      have zs70 := Nat.le_trans zs68 E69.1
      have od70 := od68.ext E69
      have g_b69 : n0 ≤ b69 := Nat.le_trans zs68 (Nat.le_of_eq g69.symm)
      have ne_b65_b69 : b65 ≠ b69 := Nat.ne_of_lt (Nat.lt_of_lt_of_le ((A65.keep K67)).lt (Nat.le_of_eq g69.symm))
      have F69_agency : Fld Z h69 b69 "com/example/ballast_ledger/ballastledger/CreditRating" "agency" "Lcom/example/ballast_ledger/ballastledger/CreditRating$Agency;" .null := D69 (Or.inr (hw _ (List.mem_of_getElem? (i := 33) rfl))) (ty := (.object "com/example/ballast_ledger/ballastledger/CreditRating$Agency")) (by decide)
      have F69_notch : Fld Z h69 b69 "com/example/ballast_ledger/ballastledger/CreditRating" "notch" "I" (.int (0 : Int32)) := D69 (Or.inr (hw _ (List.mem_of_getElem? (i := 35) rfl))) (ty := .int) (by decide)
      refine own_go ?_ (fun tq kt => st69 _ kt)
      show own_Fin _ _ _ _ (T69.setTop (mkF m 120 #[.val (.int p1), .val (.int p2), .val (.int p3), .val (.int p4), .val (.int (0 : Int32)), .val (.int (0 : Int32)), .val (.ref mo), .val (.ref mo), .val (.int (21 : Int32)), .val (.int (21 : Int32)), .val (.int n1), .val (.int n2), .val (.ref b65), .unset, .unset, .unset, .unset, .unset] [(.ref b69)]))
      refine own_go ?_ (fun tq kt => XS.dup X69.here hx rfl (hb hby at_120) rfl rfl kt)
      show own_Fin _ _ _ _ (T69.setTop (mkF m 121 #[.val (.int p1), .val (.int p2), .val (.int p3), .val (.int p4), .val (.int (0 : Int32)), .val (.int (0 : Int32)), .val (.ref mo), .val (.ref mo), .val (.int (21 : Int32)), .val (.int (21 : Int32)), .val (.int n1), .val (.int n2), .val (.ref b65), .unset, .unset, .unset, .unset, .unset] [(.ref b69), (.ref b69)]))
      refine own_go ?_ (fun tq kt => XS.aload X69.here hx rfl (hb hby at_121) rfl rfl kt)
      show own_Fin _ _ _ _ (T69.setTop (mkF m 123 #[.val (.int p1), .val (.int p2), .val (.int p3), .val (.int p4), .val (.int (0 : Int32)), .val (.int (0 : Int32)), .val (.ref mo), .val (.ref mo), .val (.int (21 : Int32)), .val (.int (21 : Int32)), .val (.int n1), .val (.int n2), .val (.ref b65), .unset, .unset, .unset, .unset, .unset] [(.ref mo), (.ref b69), (.ref b69)]))
      refine own_go ?_ (fun tq kt => XS.iload X69.here hx rfl (hb hby at_123) rfl kt)
      show own_Fin _ _ _ _ (T69.setTop (mkF m 125 #[.val (.int p1), .val (.int p2), .val (.int p3), .val (.int p4), .val (.int (0 : Int32)), .val (.int (0 : Int32)), .val (.ref mo), .val (.ref mo), .val (.int (21 : Int32)), .val (.int (21 : Int32)), .val (.int n1), .val (.int n2), .val (.ref b65), .unset, .unset, .unset, .unset, .unset] [(.int n2), (.ref mo), (.ref b69), (.ref b69)]))
      obtain ⟨_, _, ⟨T71, L71, k71, n71⟩, -, X71, ⟨Lc71, hQ71, l71, y71, z71⟩, st71⟩ := X69.specialBack hx (y := (⟨"com/example/ballast_ledger/ballastledger/CreditRating", "<init>", "(Lcom/example/ballast_ledger/ballastledger/CreditRating$Agency;I)V"⟩ : MethodName)) rfl hown (mvT hZ (hw _ (List.mem_of_getElem? (i := 7) rfl))) (mvT hZ (hw _ (List.mem_of_getElem? (i := 8) rfl))) (mvT hZ (hw _ (List.mem_of_getElem? (i := 9) rfl))) (by decide) (backOf (W := 1) (rm1 l Z a0 hw [] b69 mo n2 msc mel mcl (21 : Int32) h69 n0 zs70 od70 A69 F69_agency F69_notch g_b69 mFS mES mFE mAR mAS mAM Bn2.1 Bn2.2) hZ (hw _ (List.mem_of_getElem? (i := 9) rfl)) (hw _ (List.mem_of_getElem? (i := 6) rfl)) (by decide) (by decide)) (g := (mkF m 125 #[.val (.int p1), .val (.int p2), .val (.int p3), .val (.int p4), .val (.int (0 : Int32)), .val (.int (0 : Int32)), .val (.ref mo), .val (.ref mo), .val (.int (21 : Int32)), .val (.int (21 : Int32)), .val (.int n1), .val (.int n2), .val (.ref b65), .unset, .unset, .unset, .unset, .unset] [(.int n2), (.ref mo), (.ref b69), (.ref b69)])) rfl (by rw [hml]; rfl) (Steps.refl _) (a := b69) (argsL := [(.ref mo), (.int n2)]) (rest := [(.ref b69)]) (lenOf own_pd2 rfl) rfl (by show 2 * 0 + _ ≤ _; exact Nat.le_of_eq rfl) (hb hby at_125) (fun _ _ => ⟨rfl, e69, (by decide : 2 + 0 ≤ _), (by decide : 4 + 0 ≤ _)⟩)
      dsimp only [Pt.U, Pt.locs, Pt.cells, Pt.slots] at X71 l71 y71 z71 st71 hQ71
      subst l71 y71 z71
      obtain ⟨rfl, N71q, K71, F71⟩ := hQ71
      have N71 := Fr.app N67 N71q
      obtain ⟨h71, e71⟩ : ∃ z, z = T71.heap := ⟨_, rfl⟩
      have e71' := e71.symm
      rw [← e71] at K71 F71
      have zs72 := Nat.le_trans zs70 K71.1
      have od72 := od70.keep K71 (allS g_b69 all0)
      refine own_go ?_ (fun tq kt => st71.trans kt)
      show own_Fin _ _ _ _ (T71.setTop (mkF m 128 #[.val (.int p1), .val (.int p2), .val (.int p3), .val (.int p4), .val (.int (0 : Int32)), .val (.int (0 : Int32)), .val (.ref mo), .val (.ref mo), .val (.int (21 : Int32)), .val (.int (21 : Int32)), .val (.int n1), .val (.int n2), .val (.ref b65), .unset, .unset, .unset, .unset, .unset] [(.ref b69)]))
      refine own_go ?_ (fun tq kt => XS.astore X71.here hx rfl (hb hby at_128) rfl rfl (l' := #[.val (.int p1), .val (.int p2), .val (.int p3), .val (.int p4), .val (.int (0 : Int32)), .val (.int (0 : Int32)), .val (.ref mo), .val (.ref mo), .val (.int (21 : Int32)), .val (.int (21 : Int32)), .val (.int n1), .val (.int n2), .val (.ref b65), .val (.ref b69), .unset, .unset, .unset, .unset]) rfl kt)
      show own_Fin _ _ _ _ (T71.setTop (mkF m 130 #[.val (.int p1), .val (.int p2), .val (.int p3), .val (.int p4), .val (.int (0 : Int32)), .val (.int (0 : Int32)), .val (.ref mo), .val (.ref mo), .val (.int (21 : Int32)), .val (.int (21 : Int32)), .val (.int n1), .val (.int n2), .val (.ref b65), .val (.ref b69), .unset, .unset, .unset, .unset] []))
      have hs := own_sub n1 n2 Bn1 Bn2
      have hs' := own_sub n2 n1 Bn2 Bn1
      by_cases h12 : n1 < n2
      · have h21 : ¬ n2 < n1 := Int32.lt_asymm h12
        refine own_go ?_ (fun tq kt => XS.aload X71.here hx rfl (hb hby at_130) rfl rfl kt)
        show own_Fin _ _ _ _ (T71.setTop (mkF m 132 #[.val (.int p1), .val (.int p2), .val (.int p3), .val (.int p4), .val (.int (0 : Int32)), .val (.int (0 : Int32)), .val (.ref mo), .val (.ref mo), .val (.int (21 : Int32)), .val (.int (21 : Int32)), .val (.int n1), .val (.int n2), .val (.ref b65), .val (.ref b69), .unset, .unset, .unset, .unset] [(.ref b65)]))
        refine own_go ?_ (fun tq kt => XS.aload X71.here hx rfl (hb hby at_132) rfl rfl kt)
        show own_Fin _ _ _ _ (T71.setTop (mkF m 134 #[.val (.int p1), .val (.int p2), .val (.int p3), .val (.int p4), .val (.int (0 : Int32)), .val (.int (0 : Int32)), .val (.ref mo), .val (.ref mo), .val (.int (21 : Int32)), .val (.int (21 : Int32)), .val (.int n1), .val (.int n2), .val (.ref b65), .val (.ref b69), .unset, .unset, .unset, .unset] [(.ref b69), (.ref b65)]))
        obtain ⟨cq73, kq73, q73a, q73b, q73c⟩ := isOf hZ e71' (((A65.keep K67).ext E69).keep K71)
        obtain ⟨_, _, ⟨T73, L73, k73, n73⟩, -, X73, ⟨Lc73, hQ73, l73, y73, z73⟩, st73⟩ := X71.virtualBack hx (y := (⟨"com/example/ballast_ledger/ballastledger/CreditRating", "isBelow", "(Lcom/example/ballast_ledger/ballastledger/CreditRating;)Z"⟩ : MethodName)) (z := (⟨"com/example/ballast_ledger/ballastledger/CreditRating", "isBelow", "(Lcom/example/ballast_ledger/ballastledger/CreditRating;)Z"⟩ : MethodName)) hown (mvT hZ (hw _ (List.mem_of_getElem? (i := 36) rfl))) (mvT hZ (hw _ (List.mem_of_getElem? (i := 37) rfl))) (notFace_of_selects (args := #[]) (mvT hZ (hw _ (List.mem_of_getElem? (i := 39) rfl)))) (mvT hZ (hw _ (List.mem_of_getElem? (i := 39) rfl))) (mvT hZ (hw _ (List.mem_of_getElem? (i := 38) rfl))) (by decide) (backOf (W := 0) (rm5 l Z a0 hw [] b65 b69 n1 n2 (0 : Int32) h71 n0 zs72 ((F67.ext E69).keep K71 (ninS ne_b65_b69 nin0)) F71 ⟨fun q => absurd q h21, fun _ => rfl⟩) hZ (hw _ (List.mem_of_getElem? (i := 40) rfl)) (hw _ (List.mem_of_getElem? (i := 6) rfl)) (by decide) (by decide)) q73a q73c (g := (mkF m 134 #[.val (.int p1), .val (.int p2), .val (.int p3), .val (.int p4), .val (.int (0 : Int32)), .val (.int (0 : Int32)), .val (.ref mo), .val (.ref mo), .val (.int (21 : Int32)), .val (.int (21 : Int32)), .val (.int n1), .val (.int n2), .val (.ref b65), .val (.ref b69), .unset, .unset, .unset, .unset] [(.ref b69), (.ref b65)])) rfl (by rw [hml]; rfl) (Steps.refl _) (argsL := [(.ref b69)]) (rest := []) (lenOf own_pd3 rfl) rfl (by show 2 * 0 + _ ≤ _; exact Nat.le_of_eq rfl) (hb hby at_134) (fun _ _ => ⟨rfl, e71', (by decide : 2 + 0 ≤ _), (by decide : 4 + 0 ≤ _)⟩)
        dsimp only [Pt.U, Pt.locs, Pt.cells, Pt.slots] at X73 l73 y73 z73 st73 hQ73
        subst l73 y73 z73
        obtain ⟨rfl, N73q, e73⟩ := hQ73
        have N73 := Fr.app N71 N73q
        refine own_go ?_ (fun tq kt => st73.trans kt)
        show own_Fin _ _ _ _ (T73.setTop (mkF m 137 #[.val (.int p1), .val (.int p2), .val (.int p3), .val (.int p4), .val (.int (0 : Int32)), .val (.int (0 : Int32)), .val (.ref mo), .val (.ref mo), .val (.int (21 : Int32)), .val (.int (21 : Int32)), .val (.int n1), .val (.int n2), .val (.ref b65), .val (.ref b69), .unset, .unset, .unset, .unset] [(.int (0 : Int32))]))
        refine own_go ?_ (fun tq kt => XS.istore X73.here hx rfl (hb hby at_137) rfl (l' := #[.val (.int p1), .val (.int p2), .val (.int p3), .val (.int p4), .val (.int (0 : Int32)), .val (.int (0 : Int32)), .val (.ref mo), .val (.ref mo), .val (.int (21 : Int32)), .val (.int (21 : Int32)), .val (.int n1), .val (.int n2), .val (.ref b65), .val (.ref b69), .val (.int (0 : Int32)), .unset, .unset, .unset]) rfl kt)
        show own_Fin _ _ _ _ (T73.setTop (mkF m 139 #[.val (.int p1), .val (.int p2), .val (.int p3), .val (.int p4), .val (.int (0 : Int32)), .val (.int (0 : Int32)), .val (.ref mo), .val (.ref mo), .val (.int (21 : Int32)), .val (.int (21 : Int32)), .val (.int n1), .val (.int n2), .val (.ref b65), .val (.ref b69), .val (.int (0 : Int32)), .unset, .unset, .unset] []))
        refine own_go ?_ (fun tq kt => XS.aload X73.here hx rfl (hb hby at_139) rfl rfl kt)
        show own_Fin _ _ _ _ (T73.setTop (mkF m 141 #[.val (.int p1), .val (.int p2), .val (.int p3), .val (.int p4), .val (.int (0 : Int32)), .val (.int (0 : Int32)), .val (.ref mo), .val (.ref mo), .val (.int (21 : Int32)), .val (.int (21 : Int32)), .val (.int n1), .val (.int n2), .val (.ref b65), .val (.ref b69), .val (.int (0 : Int32)), .unset, .unset, .unset] [(.ref b69)]))
        refine own_go ?_ (fun tq kt => XS.aload X73.here hx rfl (hb hby at_141) rfl rfl kt)
        show own_Fin _ _ _ _ (T73.setTop (mkF m 143 #[.val (.int p1), .val (.int p2), .val (.int p3), .val (.int p4), .val (.int (0 : Int32)), .val (.int (0 : Int32)), .val (.ref mo), .val (.ref mo), .val (.int (21 : Int32)), .val (.int (21 : Int32)), .val (.int n1), .val (.int n2), .val (.ref b65), .val (.ref b69), .val (.int (0 : Int32)), .unset, .unset, .unset] [(.ref b65), (.ref b69)]))
        obtain ⟨cq74, kq74, q74a, q74b, q74c⟩ := isOf hZ e73 (A69.keep K71)
        obtain ⟨_, _, ⟨T74, L74, k74, n74⟩, -, X74, ⟨Lc74, hQ74, l74, y74, z74⟩, st74⟩ := X73.virtualBack hx (y := (⟨"com/example/ballast_ledger/ballastledger/CreditRating", "isBelow", "(Lcom/example/ballast_ledger/ballastledger/CreditRating;)Z"⟩ : MethodName)) (z := (⟨"com/example/ballast_ledger/ballastledger/CreditRating", "isBelow", "(Lcom/example/ballast_ledger/ballastledger/CreditRating;)Z"⟩ : MethodName)) hown (mvT hZ (hw _ (List.mem_of_getElem? (i := 36) rfl))) (mvT hZ (hw _ (List.mem_of_getElem? (i := 37) rfl))) (notFace_of_selects (args := #[]) (mvT hZ (hw _ (List.mem_of_getElem? (i := 39) rfl)))) (mvT hZ (hw _ (List.mem_of_getElem? (i := 39) rfl))) (mvT hZ (hw _ (List.mem_of_getElem? (i := 38) rfl))) (by decide) (backOf (W := 0) (rm5 l Z a0 hw [] b69 b65 n2 n1 (1 : Int32) h71 n0 zs72 F71 ((F67.ext E69).keep K71 (ninS ne_b65_b69 nin0)) ⟨fun _ => rfl, fun q => absurd h12 q⟩) hZ (hw _ (List.mem_of_getElem? (i := 40) rfl)) (hw _ (List.mem_of_getElem? (i := 6) rfl)) (by decide) (by decide)) q74a q74c (g := (mkF m 143 #[.val (.int p1), .val (.int p2), .val (.int p3), .val (.int p4), .val (.int (0 : Int32)), .val (.int (0 : Int32)), .val (.ref mo), .val (.ref mo), .val (.int (21 : Int32)), .val (.int (21 : Int32)), .val (.int n1), .val (.int n2), .val (.ref b65), .val (.ref b69), .val (.int (0 : Int32)), .unset, .unset, .unset] [(.ref b65), (.ref b69)])) rfl (by rw [hml]; rfl) (Steps.refl _) (argsL := [(.ref b65)]) (rest := []) (lenOf own_pd3 rfl) rfl (by show 2 * 0 + _ ≤ _; exact Nat.le_of_eq rfl) (hb hby at_143) (fun _ _ => ⟨rfl, e73, (by decide : 2 + 0 ≤ _), (by decide : 4 + 0 ≤ _)⟩)
        dsimp only [Pt.U, Pt.locs, Pt.cells, Pt.slots] at X74 l74 y74 z74 st74 hQ74
        subst l74 y74 z74
        obtain ⟨rfl, N74q, e74⟩ := hQ74
        have N74 := Fr.app N73 N74q
        refine own_go ?_ (fun tq kt => st74.trans kt)
        show own_Fin _ _ _ _ (T74.setTop (mkF m 146 #[.val (.int p1), .val (.int p2), .val (.int p3), .val (.int p4), .val (.int (0 : Int32)), .val (.int (0 : Int32)), .val (.ref mo), .val (.ref mo), .val (.int (21 : Int32)), .val (.int (21 : Int32)), .val (.int n1), .val (.int n2), .val (.ref b65), .val (.ref b69), .val (.int (0 : Int32)), .unset, .unset, .unset] [(.int (1 : Int32))]))
        refine own_go ?_ (fun tq kt => XS.istore X74.here hx rfl (hb hby at_146) rfl (l' := #[.val (.int p1), .val (.int p2), .val (.int p3), .val (.int p4), .val (.int (0 : Int32)), .val (.int (0 : Int32)), .val (.ref mo), .val (.ref mo), .val (.int (21 : Int32)), .val (.int (21 : Int32)), .val (.int n1), .val (.int n2), .val (.ref b65), .val (.ref b69), .val (.int (0 : Int32)), .val (.int (1 : Int32)), .unset, .unset]) rfl kt)
        show own_Fin _ _ _ _ (T74.setTop (mkF m 148 #[.val (.int p1), .val (.int p2), .val (.int p3), .val (.int p4), .val (.int (0 : Int32)), .val (.int (0 : Int32)), .val (.ref mo), .val (.ref mo), .val (.int (21 : Int32)), .val (.int (21 : Int32)), .val (.int n1), .val (.int n2), .val (.ref b65), .val (.ref b69), .val (.int (0 : Int32)), .val (.int (1 : Int32)), .unset, .unset] []))
        refine own_go ?_ (fun tq kt => XS.iload X74.here hx rfl (hb hby at_148) rfl kt)
        show own_Fin _ _ _ _ (T74.setTop (mkF m 150 #[.val (.int p1), .val (.int p2), .val (.int p3), .val (.int p4), .val (.int (0 : Int32)), .val (.int (0 : Int32)), .val (.ref mo), .val (.ref mo), .val (.int (21 : Int32)), .val (.int (21 : Int32)), .val (.int n1), .val (.int n2), .val (.ref b65), .val (.ref b69), .val (.int (0 : Int32)), .val (.int (1 : Int32)), .unset, .unset] [(.int n1)]))
        refine own_go ?_ (fun tq kt => XS.iload X74.here hx rfl (hb hby at_150) rfl kt)
        show own_Fin _ _ _ _ (T74.setTop (mkF m 152 #[.val (.int p1), .val (.int p2), .val (.int p3), .val (.int p4), .val (.int (0 : Int32)), .val (.int (0 : Int32)), .val (.ref mo), .val (.ref mo), .val (.int (21 : Int32)), .val (.int (21 : Int32)), .val (.int n1), .val (.int n2), .val (.ref b65), .val (.ref b69), .val (.int (0 : Int32)), .val (.int (1 : Int32)), .unset, .unset] [(.int n2), (.int n1)]))
        refine own_go ?_ (fun tq kt => XS.isub X74.here hx rfl (hb hby at_152) rfl kt)
        show own_Fin _ _ _ _ (T74.setTop (mkF m 153 #[.val (.int p1), .val (.int p2), .val (.int p3), .val (.int p4), .val (.int (0 : Int32)), .val (.int (0 : Int32)), .val (.ref mo), .val (.ref mo), .val (.int (21 : Int32)), .val (.int (21 : Int32)), .val (.int n1), .val (.int n2), .val (.ref b65), .val (.ref b69), .val (.int (0 : Int32)), .val (.int (1 : Int32)), .unset, .unset] [(.int (n1 - n2))]))
        refine own_go ?_ (fun tq kt => XS.iconst X74.here hx rfl (hb hby at_153) kt)
        show own_Fin _ _ _ _ (T74.setTop (mkF m 154 #[.val (.int p1), .val (.int p2), .val (.int p3), .val (.int p4), .val (.int (0 : Int32)), .val (.int (0 : Int32)), .val (.ref mo), .val (.ref mo), .val (.int (21 : Int32)), .val (.int (21 : Int32)), .val (.int n1), .val (.int n2), .val (.ref b65), .val (.ref b69), .val (.int (0 : Int32)), .val (.int (1 : Int32)), .unset, .unset] [(.int (1 : Int32)), (.int (n1 - n2))]))
        refine own_go ?_ (fun tq kt => XS.icmpYes X74.here hx rfl (pc0 := 154) (pc' := 161) rfl (hb hby at_154) rfl (tlt ((hs.2 h21) : (n1 - n2) < (1 : Int32))).1 (by decide) (by decide) kt)
        show own_Fin _ _ _ _ (T74.setTop (mkF m 161 #[.val (.int p1), .val (.int p2), .val (.int p3), .val (.int p4), .val (.int (0 : Int32)), .val (.int (0 : Int32)), .val (.ref mo), .val (.ref mo), .val (.int (21 : Int32)), .val (.int (21 : Int32)), .val (.int n1), .val (.int n2), .val (.ref b65), .val (.ref b69), .val (.int (0 : Int32)), .val (.int (1 : Int32)), .unset, .unset] []))
        refine own_go ?_ (fun tq kt => XS.iconst X74.here hx rfl (hb hby at_161) kt)
        show own_Fin _ _ _ _ (T74.setTop (mkF m 162 #[.val (.int p1), .val (.int p2), .val (.int p3), .val (.int p4), .val (.int (0 : Int32)), .val (.int (0 : Int32)), .val (.ref mo), .val (.ref mo), .val (.int (21 : Int32)), .val (.int (21 : Int32)), .val (.int n1), .val (.int n2), .val (.ref b65), .val (.ref b69), .val (.int (0 : Int32)), .val (.int (1 : Int32)), .unset, .unset] [(.int (0 : Int32))]))
        refine own_go ?_ (fun tq kt => XS.istore X74.here hx rfl (hb hby at_162) rfl (l' := #[.val (.int p1), .val (.int p2), .val (.int p3), .val (.int p4), .val (.int (0 : Int32)), .val (.int (0 : Int32)), .val (.ref mo), .val (.ref mo), .val (.int (21 : Int32)), .val (.int (21 : Int32)), .val (.int n1), .val (.int n2), .val (.ref b65), .val (.ref b69), .val (.int (0 : Int32)), .val (.int (1 : Int32)), .val (.int (0 : Int32)), .unset]) rfl kt)
        show own_Fin _ _ _ _ (T74.setTop (mkF m 164 #[.val (.int p1), .val (.int p2), .val (.int p3), .val (.int p4), .val (.int (0 : Int32)), .val (.int (0 : Int32)), .val (.ref mo), .val (.ref mo), .val (.int (21 : Int32)), .val (.int (21 : Int32)), .val (.int n1), .val (.int n2), .val (.ref b65), .val (.ref b69), .val (.int (0 : Int32)), .val (.int (1 : Int32)), .val (.int (0 : Int32)), .unset] []))
        refine own_go ?_ (fun tq kt => XS.iload X74.here hx rfl (hb hby at_164) rfl kt)
        show own_Fin _ _ _ _ (T74.setTop (mkF m 166 #[.val (.int p1), .val (.int p2), .val (.int p3), .val (.int p4), .val (.int (0 : Int32)), .val (.int (0 : Int32)), .val (.ref mo), .val (.ref mo), .val (.int (21 : Int32)), .val (.int (21 : Int32)), .val (.int n1), .val (.int n2), .val (.ref b65), .val (.ref b69), .val (.int (0 : Int32)), .val (.int (1 : Int32)), .val (.int (0 : Int32)), .unset] [(.int n2)]))
        refine own_go ?_ (fun tq kt => XS.iload X74.here hx rfl (hb hby at_166) rfl kt)
        show own_Fin _ _ _ _ (T74.setTop (mkF m 168 #[.val (.int p1), .val (.int p2), .val (.int p3), .val (.int p4), .val (.int (0 : Int32)), .val (.int (0 : Int32)), .val (.ref mo), .val (.ref mo), .val (.int (21 : Int32)), .val (.int (21 : Int32)), .val (.int n1), .val (.int n2), .val (.ref b65), .val (.ref b69), .val (.int (0 : Int32)), .val (.int (1 : Int32)), .val (.int (0 : Int32)), .unset] [(.int n1), (.int n2)]))
        refine own_go ?_ (fun tq kt => XS.isub X74.here hx rfl (hb hby at_168) rfl kt)
        show own_Fin _ _ _ _ (T74.setTop (mkF m 169 #[.val (.int p1), .val (.int p2), .val (.int p3), .val (.int p4), .val (.int (0 : Int32)), .val (.int (0 : Int32)), .val (.ref mo), .val (.ref mo), .val (.int (21 : Int32)), .val (.int (21 : Int32)), .val (.int n1), .val (.int n2), .val (.ref b65), .val (.ref b69), .val (.int (0 : Int32)), .val (.int (1 : Int32)), .val (.int (0 : Int32)), .unset] [(.int (n2 - n1))]))
        refine own_go ?_ (fun tq kt => XS.iconst X74.here hx rfl (hb hby at_169) kt)
        show own_Fin _ _ _ _ (T74.setTop (mkF m 170 #[.val (.int p1), .val (.int p2), .val (.int p3), .val (.int p4), .val (.int (0 : Int32)), .val (.int (0 : Int32)), .val (.ref mo), .val (.ref mo), .val (.int (21 : Int32)), .val (.int (21 : Int32)), .val (.int n1), .val (.int n2), .val (.ref b65), .val (.ref b69), .val (.int (0 : Int32)), .val (.int (1 : Int32)), .val (.int (0 : Int32)), .unset] [(.int (1 : Int32)), (.int (n2 - n1))]))
        refine own_go ?_ (fun tq kt => XS.icmpNo X74.here hx rfl (hb hby at_170) rfl (flt ((hs'.1 h12) : ¬ ((n2 - n1) < (1 : Int32)))).1 kt)
        show own_Fin _ _ _ _ (T74.setTop (mkF m 173 #[.val (.int p1), .val (.int p2), .val (.int p3), .val (.int p4), .val (.int (0 : Int32)), .val (.int (0 : Int32)), .val (.ref mo), .val (.ref mo), .val (.int (21 : Int32)), .val (.int (21 : Int32)), .val (.int n1), .val (.int n2), .val (.ref b65), .val (.ref b69), .val (.int (0 : Int32)), .val (.int (1 : Int32)), .val (.int (0 : Int32)), .unset] []))
        refine own_go ?_ (fun tq kt => XS.iconst X74.here hx rfl (hb hby at_173) kt)
        show own_Fin _ _ _ _ (T74.setTop (mkF m 174 #[.val (.int p1), .val (.int p2), .val (.int p3), .val (.int p4), .val (.int (0 : Int32)), .val (.int (0 : Int32)), .val (.ref mo), .val (.ref mo), .val (.int (21 : Int32)), .val (.int (21 : Int32)), .val (.int n1), .val (.int n2), .val (.ref b65), .val (.ref b69), .val (.int (0 : Int32)), .val (.int (1 : Int32)), .val (.int (0 : Int32)), .unset] [(.int (1 : Int32))]))
        refine own_go ?_ (fun tq kt => XS.goto X74.here hx rfl (pc0 := 174) (pc' := 178) rfl (hb hby at_174) (by decide) (by decide) kt)
        show own_Fin _ _ _ _ (T74.setTop (mkF m 178 #[.val (.int p1), .val (.int p2), .val (.int p3), .val (.int p4), .val (.int (0 : Int32)), .val (.int (0 : Int32)), .val (.ref mo), .val (.ref mo), .val (.int (21 : Int32)), .val (.int (21 : Int32)), .val (.int n1), .val (.int n2), .val (.ref b65), .val (.ref b69), .val (.int (0 : Int32)), .val (.int (1 : Int32)), .val (.int (0 : Int32)), .unset] [(.int (1 : Int32))]))
        refine own_go ?_ (fun tq kt => XS.istore X74.here hx rfl (hb hby at_178) rfl (l' := #[.val (.int p1), .val (.int p2), .val (.int p3), .val (.int p4), .val (.int (0 : Int32)), .val (.int (0 : Int32)), .val (.ref mo), .val (.ref mo), .val (.int (21 : Int32)), .val (.int (21 : Int32)), .val (.int n1), .val (.int n2), .val (.ref b65), .val (.ref b69), .val (.int (0 : Int32)), .val (.int (1 : Int32)), .val (.int (0 : Int32)), .val (.int (1 : Int32))]) rfl kt)
        show own_Fin _ _ _ _ (T74.setTop (mkF m 180 #[.val (.int p1), .val (.int p2), .val (.int p3), .val (.int p4), .val (.int (0 : Int32)), .val (.int (0 : Int32)), .val (.ref mo), .val (.ref mo), .val (.int (21 : Int32)), .val (.int (21 : Int32)), .val (.int n1), .val (.int n2), .val (.ref b65), .val (.ref b69), .val (.int (0 : Int32)), .val (.int (1 : Int32)), .val (.int (0 : Int32)), .val (.int (1 : Int32))] []))
        refine own_go ?_ (fun tq kt => XS.iload X74.here hx rfl (hb hby at_180) rfl kt)
        show own_Fin _ _ _ _ (T74.setTop (mkF m 182 #[.val (.int p1), .val (.int p2), .val (.int p3), .val (.int p4), .val (.int (0 : Int32)), .val (.int (0 : Int32)), .val (.ref mo), .val (.ref mo), .val (.int (21 : Int32)), .val (.int (21 : Int32)), .val (.int n1), .val (.int n2), .val (.ref b65), .val (.ref b69), .val (.int (0 : Int32)), .val (.int (1 : Int32)), .val (.int (0 : Int32)), .val (.int (1 : Int32))] [(.int (0 : Int32))]))
        refine own_go ?_ (fun tq kt => XS.iload X74.here hx rfl (hb hby at_182) rfl kt)
        show own_Fin _ _ _ _ (T74.setTop (mkF m 184 #[.val (.int p1), .val (.int p2), .val (.int p3), .val (.int p4), .val (.int (0 : Int32)), .val (.int (0 : Int32)), .val (.ref mo), .val (.ref mo), .val (.int (21 : Int32)), .val (.int (21 : Int32)), .val (.int n1), .val (.int n2), .val (.ref b65), .val (.ref b69), .val (.int (0 : Int32)), .val (.int (1 : Int32)), .val (.int (0 : Int32)), .val (.int (1 : Int32))] [(.int (0 : Int32)), (.int (0 : Int32))]))
        refine own_go ?_ (fun tq kt => XS.icmpNo X74.here hx rfl (hb hby at_184) rfl (teq (rfl : (0 : Int32) = (0 : Int32))).2 kt)
        show own_Fin _ _ _ _ (T74.setTop (mkF m 187 #[.val (.int p1), .val (.int p2), .val (.int p3), .val (.int p4), .val (.int (0 : Int32)), .val (.int (0 : Int32)), .val (.ref mo), .val (.ref mo), .val (.int (21 : Int32)), .val (.int (21 : Int32)), .val (.int n1), .val (.int n2), .val (.ref b65), .val (.ref b69), .val (.int (0 : Int32)), .val (.int (1 : Int32)), .val (.int (0 : Int32)), .val (.int (1 : Int32))] []))
        refine own_go ?_ (fun tq kt => XS.iload X74.here hx rfl (hb hby at_187) rfl kt)
        show own_Fin _ _ _ _ (T74.setTop (mkF m 189 #[.val (.int p1), .val (.int p2), .val (.int p3), .val (.int p4), .val (.int (0 : Int32)), .val (.int (0 : Int32)), .val (.ref mo), .val (.ref mo), .val (.int (21 : Int32)), .val (.int (21 : Int32)), .val (.int n1), .val (.int n2), .val (.ref b65), .val (.ref b69), .val (.int (0 : Int32)), .val (.int (1 : Int32)), .val (.int (0 : Int32)), .val (.int (1 : Int32))] [(.int (1 : Int32))]))
        refine own_go ?_ (fun tq kt => XS.iload X74.here hx rfl (hb hby at_189) rfl kt)
        show own_Fin _ _ _ _ (T74.setTop (mkF m 191 #[.val (.int p1), .val (.int p2), .val (.int p3), .val (.int p4), .val (.int (0 : Int32)), .val (.int (0 : Int32)), .val (.ref mo), .val (.ref mo), .val (.int (21 : Int32)), .val (.int (21 : Int32)), .val (.int n1), .val (.int n2), .val (.ref b65), .val (.ref b69), .val (.int (0 : Int32)), .val (.int (1 : Int32)), .val (.int (0 : Int32)), .val (.int (1 : Int32))] [(.int (1 : Int32)), (.int (1 : Int32))]))
        refine own_go ?_ (fun tq kt => XS.icmpNo X74.here hx rfl (hb hby at_191) rfl (teq (rfl : (1 : Int32) = (1 : Int32))).2 kt)
        show own_Fin _ _ _ _ (T74.setTop (mkF m 194 #[.val (.int p1), .val (.int p2), .val (.int p3), .val (.int p4), .val (.int (0 : Int32)), .val (.int (0 : Int32)), .val (.ref mo), .val (.ref mo), .val (.int (21 : Int32)), .val (.int (21 : Int32)), .val (.int n1), .val (.int n2), .val (.ref b65), .val (.ref b69), .val (.int (0 : Int32)), .val (.int (1 : Int32)), .val (.int (0 : Int32)), .val (.int (1 : Int32))] []))
        refine own_go ?_ (fun tq kt => XS.iconst X74.here hx rfl (hb hby at_194) kt)
        show own_Fin _ _ _ _ (T74.setTop (mkF m 195 #[.val (.int p1), .val (.int p2), .val (.int p3), .val (.int p4), .val (.int (0 : Int32)), .val (.int (0 : Int32)), .val (.ref mo), .val (.ref mo), .val (.int (21 : Int32)), .val (.int (21 : Int32)), .val (.int n1), .val (.int n2), .val (.ref b65), .val (.ref b69), .val (.int (0 : Int32)), .val (.int (1 : Int32)), .val (.int (0 : Int32)), .val (.int (1 : Int32))] [(.int (1 : Int32))]))
        refine own_go ?_ (fun tq kt => XS.goto X74.here hx rfl (pc0 := 195) (pc' := 199) rfl (hb hby at_195) (by decide) (by decide) kt)
        show own_Fin _ _ _ _ (T74.setTop (mkF m 199 #[.val (.int p1), .val (.int p2), .val (.int p3), .val (.int p4), .val (.int (0 : Int32)), .val (.int (0 : Int32)), .val (.ref mo), .val (.ref mo), .val (.int (21 : Int32)), .val (.int (21 : Int32)), .val (.int n1), .val (.int n2), .val (.ref b65), .val (.ref b69), .val (.int (0 : Int32)), .val (.int (1 : Int32)), .val (.int (0 : Int32)), .val (.int (1 : Int32))] [(.int (1 : Int32))]))
        refine own_retN X74 hx (t := .boolean) Bd.returns (by simp) (hb hby at_199) hlk ?_ (by decide) (by decide)
        exact ⟨rfl, N74⟩
      · by_cases h21 : n2 < n1
        · skip
          refine own_go ?_ (fun tq kt => XS.aload X71.here hx rfl (hb hby at_130) rfl rfl kt)
          show own_Fin _ _ _ _ (T71.setTop (mkF m 132 #[.val (.int p1), .val (.int p2), .val (.int p3), .val (.int p4), .val (.int (0 : Int32)), .val (.int (0 : Int32)), .val (.ref mo), .val (.ref mo), .val (.int (21 : Int32)), .val (.int (21 : Int32)), .val (.int n1), .val (.int n2), .val (.ref b65), .val (.ref b69), .unset, .unset, .unset, .unset] [(.ref b65)]))
          refine own_go ?_ (fun tq kt => XS.aload X71.here hx rfl (hb hby at_132) rfl rfl kt)
          show own_Fin _ _ _ _ (T71.setTop (mkF m 134 #[.val (.int p1), .val (.int p2), .val (.int p3), .val (.int p4), .val (.int (0 : Int32)), .val (.int (0 : Int32)), .val (.ref mo), .val (.ref mo), .val (.int (21 : Int32)), .val (.int (21 : Int32)), .val (.int n1), .val (.int n2), .val (.ref b65), .val (.ref b69), .unset, .unset, .unset, .unset] [(.ref b69), (.ref b65)]))
          obtain ⟨cq75, kq75, q75a, q75b, q75c⟩ := isOf hZ e71' (((A65.keep K67).ext E69).keep K71)
          obtain ⟨_, _, ⟨T75, L75, k75, n75⟩, -, X75, ⟨Lc75, hQ75, l75, y75, z75⟩, st75⟩ := X71.virtualBack hx (y := (⟨"com/example/ballast_ledger/ballastledger/CreditRating", "isBelow", "(Lcom/example/ballast_ledger/ballastledger/CreditRating;)Z"⟩ : MethodName)) (z := (⟨"com/example/ballast_ledger/ballastledger/CreditRating", "isBelow", "(Lcom/example/ballast_ledger/ballastledger/CreditRating;)Z"⟩ : MethodName)) hown (mvT hZ (hw _ (List.mem_of_getElem? (i := 36) rfl))) (mvT hZ (hw _ (List.mem_of_getElem? (i := 37) rfl))) (notFace_of_selects (args := #[]) (mvT hZ (hw _ (List.mem_of_getElem? (i := 39) rfl)))) (mvT hZ (hw _ (List.mem_of_getElem? (i := 39) rfl))) (mvT hZ (hw _ (List.mem_of_getElem? (i := 38) rfl))) (by decide) (backOf (W := 0) (rm5 l Z a0 hw [] b65 b69 n1 n2 (1 : Int32) h71 n0 zs72 ((F67.ext E69).keep K71 (ninS ne_b65_b69 nin0)) F71 ⟨fun _ => rfl, fun q => absurd h21 q⟩) hZ (hw _ (List.mem_of_getElem? (i := 40) rfl)) (hw _ (List.mem_of_getElem? (i := 6) rfl)) (by decide) (by decide)) q75a q75c (g := (mkF m 134 #[.val (.int p1), .val (.int p2), .val (.int p3), .val (.int p4), .val (.int (0 : Int32)), .val (.int (0 : Int32)), .val (.ref mo), .val (.ref mo), .val (.int (21 : Int32)), .val (.int (21 : Int32)), .val (.int n1), .val (.int n2), .val (.ref b65), .val (.ref b69), .unset, .unset, .unset, .unset] [(.ref b69), (.ref b65)])) rfl (by rw [hml]; rfl) (Steps.refl _) (argsL := [(.ref b69)]) (rest := []) (lenOf own_pd3 rfl) rfl (by show 2 * 0 + _ ≤ _; exact Nat.le_of_eq rfl) (hb hby at_134) (fun _ _ => ⟨rfl, e71', (by decide : 2 + 0 ≤ _), (by decide : 4 + 0 ≤ _)⟩)
          dsimp only [Pt.U, Pt.locs, Pt.cells, Pt.slots] at X75 l75 y75 z75 st75 hQ75
          subst l75 y75 z75
          obtain ⟨rfl, N75q, e75⟩ := hQ75
          have N75 := Fr.app N71 N75q
          refine own_go ?_ (fun tq kt => st75.trans kt)
          show own_Fin _ _ _ _ (T75.setTop (mkF m 137 #[.val (.int p1), .val (.int p2), .val (.int p3), .val (.int p4), .val (.int (0 : Int32)), .val (.int (0 : Int32)), .val (.ref mo), .val (.ref mo), .val (.int (21 : Int32)), .val (.int (21 : Int32)), .val (.int n1), .val (.int n2), .val (.ref b65), .val (.ref b69), .unset, .unset, .unset, .unset] [(.int (1 : Int32))]))
          refine own_go ?_ (fun tq kt => XS.istore X75.here hx rfl (hb hby at_137) rfl (l' := #[.val (.int p1), .val (.int p2), .val (.int p3), .val (.int p4), .val (.int (0 : Int32)), .val (.int (0 : Int32)), .val (.ref mo), .val (.ref mo), .val (.int (21 : Int32)), .val (.int (21 : Int32)), .val (.int n1), .val (.int n2), .val (.ref b65), .val (.ref b69), .val (.int (1 : Int32)), .unset, .unset, .unset]) rfl kt)
          show own_Fin _ _ _ _ (T75.setTop (mkF m 139 #[.val (.int p1), .val (.int p2), .val (.int p3), .val (.int p4), .val (.int (0 : Int32)), .val (.int (0 : Int32)), .val (.ref mo), .val (.ref mo), .val (.int (21 : Int32)), .val (.int (21 : Int32)), .val (.int n1), .val (.int n2), .val (.ref b65), .val (.ref b69), .val (.int (1 : Int32)), .unset, .unset, .unset] []))
          refine own_go ?_ (fun tq kt => XS.aload X75.here hx rfl (hb hby at_139) rfl rfl kt)
          show own_Fin _ _ _ _ (T75.setTop (mkF m 141 #[.val (.int p1), .val (.int p2), .val (.int p3), .val (.int p4), .val (.int (0 : Int32)), .val (.int (0 : Int32)), .val (.ref mo), .val (.ref mo), .val (.int (21 : Int32)), .val (.int (21 : Int32)), .val (.int n1), .val (.int n2), .val (.ref b65), .val (.ref b69), .val (.int (1 : Int32)), .unset, .unset, .unset] [(.ref b69)]))
          refine own_go ?_ (fun tq kt => XS.aload X75.here hx rfl (hb hby at_141) rfl rfl kt)
          show own_Fin _ _ _ _ (T75.setTop (mkF m 143 #[.val (.int p1), .val (.int p2), .val (.int p3), .val (.int p4), .val (.int (0 : Int32)), .val (.int (0 : Int32)), .val (.ref mo), .val (.ref mo), .val (.int (21 : Int32)), .val (.int (21 : Int32)), .val (.int n1), .val (.int n2), .val (.ref b65), .val (.ref b69), .val (.int (1 : Int32)), .unset, .unset, .unset] [(.ref b65), (.ref b69)]))
          obtain ⟨cq76, kq76, q76a, q76b, q76c⟩ := isOf hZ e75 (A69.keep K71)
          obtain ⟨_, _, ⟨T76, L76, k76, n76⟩, -, X76, ⟨Lc76, hQ76, l76, y76, z76⟩, st76⟩ := X75.virtualBack hx (y := (⟨"com/example/ballast_ledger/ballastledger/CreditRating", "isBelow", "(Lcom/example/ballast_ledger/ballastledger/CreditRating;)Z"⟩ : MethodName)) (z := (⟨"com/example/ballast_ledger/ballastledger/CreditRating", "isBelow", "(Lcom/example/ballast_ledger/ballastledger/CreditRating;)Z"⟩ : MethodName)) hown (mvT hZ (hw _ (List.mem_of_getElem? (i := 36) rfl))) (mvT hZ (hw _ (List.mem_of_getElem? (i := 37) rfl))) (notFace_of_selects (args := #[]) (mvT hZ (hw _ (List.mem_of_getElem? (i := 39) rfl)))) (mvT hZ (hw _ (List.mem_of_getElem? (i := 39) rfl))) (mvT hZ (hw _ (List.mem_of_getElem? (i := 38) rfl))) (by decide) (backOf (W := 0) (rm5 l Z a0 hw [] b69 b65 n2 n1 (0 : Int32) h71 n0 zs72 F71 ((F67.ext E69).keep K71 (ninS ne_b65_b69 nin0)) ⟨fun q => absurd q h12, fun _ => rfl⟩) hZ (hw _ (List.mem_of_getElem? (i := 40) rfl)) (hw _ (List.mem_of_getElem? (i := 6) rfl)) (by decide) (by decide)) q76a q76c (g := (mkF m 143 #[.val (.int p1), .val (.int p2), .val (.int p3), .val (.int p4), .val (.int (0 : Int32)), .val (.int (0 : Int32)), .val (.ref mo), .val (.ref mo), .val (.int (21 : Int32)), .val (.int (21 : Int32)), .val (.int n1), .val (.int n2), .val (.ref b65), .val (.ref b69), .val (.int (1 : Int32)), .unset, .unset, .unset] [(.ref b65), (.ref b69)])) rfl (by rw [hml]; rfl) (Steps.refl _) (argsL := [(.ref b65)]) (rest := []) (lenOf own_pd3 rfl) rfl (by show 2 * 0 + _ ≤ _; exact Nat.le_of_eq rfl) (hb hby at_143) (fun _ _ => ⟨rfl, e75, (by decide : 2 + 0 ≤ _), (by decide : 4 + 0 ≤ _)⟩)
          dsimp only [Pt.U, Pt.locs, Pt.cells, Pt.slots] at X76 l76 y76 z76 st76 hQ76
          subst l76 y76 z76
          obtain ⟨rfl, N76q, e76⟩ := hQ76
          have N76 := Fr.app N75 N76q
          refine own_go ?_ (fun tq kt => st76.trans kt)
          show own_Fin _ _ _ _ (T76.setTop (mkF m 146 #[.val (.int p1), .val (.int p2), .val (.int p3), .val (.int p4), .val (.int (0 : Int32)), .val (.int (0 : Int32)), .val (.ref mo), .val (.ref mo), .val (.int (21 : Int32)), .val (.int (21 : Int32)), .val (.int n1), .val (.int n2), .val (.ref b65), .val (.ref b69), .val (.int (1 : Int32)), .unset, .unset, .unset] [(.int (0 : Int32))]))
          refine own_go ?_ (fun tq kt => XS.istore X76.here hx rfl (hb hby at_146) rfl (l' := #[.val (.int p1), .val (.int p2), .val (.int p3), .val (.int p4), .val (.int (0 : Int32)), .val (.int (0 : Int32)), .val (.ref mo), .val (.ref mo), .val (.int (21 : Int32)), .val (.int (21 : Int32)), .val (.int n1), .val (.int n2), .val (.ref b65), .val (.ref b69), .val (.int (1 : Int32)), .val (.int (0 : Int32)), .unset, .unset]) rfl kt)
          show own_Fin _ _ _ _ (T76.setTop (mkF m 148 #[.val (.int p1), .val (.int p2), .val (.int p3), .val (.int p4), .val (.int (0 : Int32)), .val (.int (0 : Int32)), .val (.ref mo), .val (.ref mo), .val (.int (21 : Int32)), .val (.int (21 : Int32)), .val (.int n1), .val (.int n2), .val (.ref b65), .val (.ref b69), .val (.int (1 : Int32)), .val (.int (0 : Int32)), .unset, .unset] []))
          refine own_go ?_ (fun tq kt => XS.iload X76.here hx rfl (hb hby at_148) rfl kt)
          show own_Fin _ _ _ _ (T76.setTop (mkF m 150 #[.val (.int p1), .val (.int p2), .val (.int p3), .val (.int p4), .val (.int (0 : Int32)), .val (.int (0 : Int32)), .val (.ref mo), .val (.ref mo), .val (.int (21 : Int32)), .val (.int (21 : Int32)), .val (.int n1), .val (.int n2), .val (.ref b65), .val (.ref b69), .val (.int (1 : Int32)), .val (.int (0 : Int32)), .unset, .unset] [(.int n1)]))
          refine own_go ?_ (fun tq kt => XS.iload X76.here hx rfl (hb hby at_150) rfl kt)
          show own_Fin _ _ _ _ (T76.setTop (mkF m 152 #[.val (.int p1), .val (.int p2), .val (.int p3), .val (.int p4), .val (.int (0 : Int32)), .val (.int (0 : Int32)), .val (.ref mo), .val (.ref mo), .val (.int (21 : Int32)), .val (.int (21 : Int32)), .val (.int n1), .val (.int n2), .val (.ref b65), .val (.ref b69), .val (.int (1 : Int32)), .val (.int (0 : Int32)), .unset, .unset] [(.int n2), (.int n1)]))
          refine own_go ?_ (fun tq kt => XS.isub X76.here hx rfl (hb hby at_152) rfl kt)
          show own_Fin _ _ _ _ (T76.setTop (mkF m 153 #[.val (.int p1), .val (.int p2), .val (.int p3), .val (.int p4), .val (.int (0 : Int32)), .val (.int (0 : Int32)), .val (.ref mo), .val (.ref mo), .val (.int (21 : Int32)), .val (.int (21 : Int32)), .val (.int n1), .val (.int n2), .val (.ref b65), .val (.ref b69), .val (.int (1 : Int32)), .val (.int (0 : Int32)), .unset, .unset] [(.int (n1 - n2))]))
          refine own_go ?_ (fun tq kt => XS.iconst X76.here hx rfl (hb hby at_153) kt)
          show own_Fin _ _ _ _ (T76.setTop (mkF m 154 #[.val (.int p1), .val (.int p2), .val (.int p3), .val (.int p4), .val (.int (0 : Int32)), .val (.int (0 : Int32)), .val (.ref mo), .val (.ref mo), .val (.int (21 : Int32)), .val (.int (21 : Int32)), .val (.int n1), .val (.int n2), .val (.ref b65), .val (.ref b69), .val (.int (1 : Int32)), .val (.int (0 : Int32)), .unset, .unset] [(.int (1 : Int32)), (.int (n1 - n2))]))
          refine own_go ?_ (fun tq kt => XS.icmpNo X76.here hx rfl (hb hby at_154) rfl (flt ((hs.1 h21) : ¬ ((n1 - n2) < (1 : Int32)))).1 kt)
          show own_Fin _ _ _ _ (T76.setTop (mkF m 157 #[.val (.int p1), .val (.int p2), .val (.int p3), .val (.int p4), .val (.int (0 : Int32)), .val (.int (0 : Int32)), .val (.ref mo), .val (.ref mo), .val (.int (21 : Int32)), .val (.int (21 : Int32)), .val (.int n1), .val (.int n2), .val (.ref b65), .val (.ref b69), .val (.int (1 : Int32)), .val (.int (0 : Int32)), .unset, .unset] []))
          refine own_go ?_ (fun tq kt => XS.iconst X76.here hx rfl (hb hby at_157) kt)
          show own_Fin _ _ _ _ (T76.setTop (mkF m 158 #[.val (.int p1), .val (.int p2), .val (.int p3), .val (.int p4), .val (.int (0 : Int32)), .val (.int (0 : Int32)), .val (.ref mo), .val (.ref mo), .val (.int (21 : Int32)), .val (.int (21 : Int32)), .val (.int n1), .val (.int n2), .val (.ref b65), .val (.ref b69), .val (.int (1 : Int32)), .val (.int (0 : Int32)), .unset, .unset] [(.int (1 : Int32))]))
          refine own_go ?_ (fun tq kt => XS.goto X76.here hx rfl (pc0 := 158) (pc' := 162) rfl (hb hby at_158) (by decide) (by decide) kt)
          show own_Fin _ _ _ _ (T76.setTop (mkF m 162 #[.val (.int p1), .val (.int p2), .val (.int p3), .val (.int p4), .val (.int (0 : Int32)), .val (.int (0 : Int32)), .val (.ref mo), .val (.ref mo), .val (.int (21 : Int32)), .val (.int (21 : Int32)), .val (.int n1), .val (.int n2), .val (.ref b65), .val (.ref b69), .val (.int (1 : Int32)), .val (.int (0 : Int32)), .unset, .unset] [(.int (1 : Int32))]))
          refine own_go ?_ (fun tq kt => XS.istore X76.here hx rfl (hb hby at_162) rfl (l' := #[.val (.int p1), .val (.int p2), .val (.int p3), .val (.int p4), .val (.int (0 : Int32)), .val (.int (0 : Int32)), .val (.ref mo), .val (.ref mo), .val (.int (21 : Int32)), .val (.int (21 : Int32)), .val (.int n1), .val (.int n2), .val (.ref b65), .val (.ref b69), .val (.int (1 : Int32)), .val (.int (0 : Int32)), .val (.int (1 : Int32)), .unset]) rfl kt)
          show own_Fin _ _ _ _ (T76.setTop (mkF m 164 #[.val (.int p1), .val (.int p2), .val (.int p3), .val (.int p4), .val (.int (0 : Int32)), .val (.int (0 : Int32)), .val (.ref mo), .val (.ref mo), .val (.int (21 : Int32)), .val (.int (21 : Int32)), .val (.int n1), .val (.int n2), .val (.ref b65), .val (.ref b69), .val (.int (1 : Int32)), .val (.int (0 : Int32)), .val (.int (1 : Int32)), .unset] []))
          refine own_go ?_ (fun tq kt => XS.iload X76.here hx rfl (hb hby at_164) rfl kt)
          show own_Fin _ _ _ _ (T76.setTop (mkF m 166 #[.val (.int p1), .val (.int p2), .val (.int p3), .val (.int p4), .val (.int (0 : Int32)), .val (.int (0 : Int32)), .val (.ref mo), .val (.ref mo), .val (.int (21 : Int32)), .val (.int (21 : Int32)), .val (.int n1), .val (.int n2), .val (.ref b65), .val (.ref b69), .val (.int (1 : Int32)), .val (.int (0 : Int32)), .val (.int (1 : Int32)), .unset] [(.int n2)]))
          refine own_go ?_ (fun tq kt => XS.iload X76.here hx rfl (hb hby at_166) rfl kt)
          show own_Fin _ _ _ _ (T76.setTop (mkF m 168 #[.val (.int p1), .val (.int p2), .val (.int p3), .val (.int p4), .val (.int (0 : Int32)), .val (.int (0 : Int32)), .val (.ref mo), .val (.ref mo), .val (.int (21 : Int32)), .val (.int (21 : Int32)), .val (.int n1), .val (.int n2), .val (.ref b65), .val (.ref b69), .val (.int (1 : Int32)), .val (.int (0 : Int32)), .val (.int (1 : Int32)), .unset] [(.int n1), (.int n2)]))
          refine own_go ?_ (fun tq kt => XS.isub X76.here hx rfl (hb hby at_168) rfl kt)
          show own_Fin _ _ _ _ (T76.setTop (mkF m 169 #[.val (.int p1), .val (.int p2), .val (.int p3), .val (.int p4), .val (.int (0 : Int32)), .val (.int (0 : Int32)), .val (.ref mo), .val (.ref mo), .val (.int (21 : Int32)), .val (.int (21 : Int32)), .val (.int n1), .val (.int n2), .val (.ref b65), .val (.ref b69), .val (.int (1 : Int32)), .val (.int (0 : Int32)), .val (.int (1 : Int32)), .unset] [(.int (n2 - n1))]))
          refine own_go ?_ (fun tq kt => XS.iconst X76.here hx rfl (hb hby at_169) kt)
          show own_Fin _ _ _ _ (T76.setTop (mkF m 170 #[.val (.int p1), .val (.int p2), .val (.int p3), .val (.int p4), .val (.int (0 : Int32)), .val (.int (0 : Int32)), .val (.ref mo), .val (.ref mo), .val (.int (21 : Int32)), .val (.int (21 : Int32)), .val (.int n1), .val (.int n2), .val (.ref b65), .val (.ref b69), .val (.int (1 : Int32)), .val (.int (0 : Int32)), .val (.int (1 : Int32)), .unset] [(.int (1 : Int32)), (.int (n2 - n1))]))
          refine own_go ?_ (fun tq kt => XS.icmpYes X76.here hx rfl (pc0 := 170) (pc' := 177) rfl (hb hby at_170) rfl (tlt ((hs'.2 h12) : (n2 - n1) < (1 : Int32))).1 (by decide) (by decide) kt)
          show own_Fin _ _ _ _ (T76.setTop (mkF m 177 #[.val (.int p1), .val (.int p2), .val (.int p3), .val (.int p4), .val (.int (0 : Int32)), .val (.int (0 : Int32)), .val (.ref mo), .val (.ref mo), .val (.int (21 : Int32)), .val (.int (21 : Int32)), .val (.int n1), .val (.int n2), .val (.ref b65), .val (.ref b69), .val (.int (1 : Int32)), .val (.int (0 : Int32)), .val (.int (1 : Int32)), .unset] []))
          refine own_go ?_ (fun tq kt => XS.iconst X76.here hx rfl (hb hby at_177) kt)
          show own_Fin _ _ _ _ (T76.setTop (mkF m 178 #[.val (.int p1), .val (.int p2), .val (.int p3), .val (.int p4), .val (.int (0 : Int32)), .val (.int (0 : Int32)), .val (.ref mo), .val (.ref mo), .val (.int (21 : Int32)), .val (.int (21 : Int32)), .val (.int n1), .val (.int n2), .val (.ref b65), .val (.ref b69), .val (.int (1 : Int32)), .val (.int (0 : Int32)), .val (.int (1 : Int32)), .unset] [(.int (0 : Int32))]))
          refine own_go ?_ (fun tq kt => XS.istore X76.here hx rfl (hb hby at_178) rfl (l' := #[.val (.int p1), .val (.int p2), .val (.int p3), .val (.int p4), .val (.int (0 : Int32)), .val (.int (0 : Int32)), .val (.ref mo), .val (.ref mo), .val (.int (21 : Int32)), .val (.int (21 : Int32)), .val (.int n1), .val (.int n2), .val (.ref b65), .val (.ref b69), .val (.int (1 : Int32)), .val (.int (0 : Int32)), .val (.int (1 : Int32)), .val (.int (0 : Int32))]) rfl kt)
          show own_Fin _ _ _ _ (T76.setTop (mkF m 180 #[.val (.int p1), .val (.int p2), .val (.int p3), .val (.int p4), .val (.int (0 : Int32)), .val (.int (0 : Int32)), .val (.ref mo), .val (.ref mo), .val (.int (21 : Int32)), .val (.int (21 : Int32)), .val (.int n1), .val (.int n2), .val (.ref b65), .val (.ref b69), .val (.int (1 : Int32)), .val (.int (0 : Int32)), .val (.int (1 : Int32)), .val (.int (0 : Int32))] []))
          refine own_go ?_ (fun tq kt => XS.iload X76.here hx rfl (hb hby at_180) rfl kt)
          show own_Fin _ _ _ _ (T76.setTop (mkF m 182 #[.val (.int p1), .val (.int p2), .val (.int p3), .val (.int p4), .val (.int (0 : Int32)), .val (.int (0 : Int32)), .val (.ref mo), .val (.ref mo), .val (.int (21 : Int32)), .val (.int (21 : Int32)), .val (.int n1), .val (.int n2), .val (.ref b65), .val (.ref b69), .val (.int (1 : Int32)), .val (.int (0 : Int32)), .val (.int (1 : Int32)), .val (.int (0 : Int32))] [(.int (1 : Int32))]))
          refine own_go ?_ (fun tq kt => XS.iload X76.here hx rfl (hb hby at_182) rfl kt)
          show own_Fin _ _ _ _ (T76.setTop (mkF m 184 #[.val (.int p1), .val (.int p2), .val (.int p3), .val (.int p4), .val (.int (0 : Int32)), .val (.int (0 : Int32)), .val (.ref mo), .val (.ref mo), .val (.int (21 : Int32)), .val (.int (21 : Int32)), .val (.int n1), .val (.int n2), .val (.ref b65), .val (.ref b69), .val (.int (1 : Int32)), .val (.int (0 : Int32)), .val (.int (1 : Int32)), .val (.int (0 : Int32))] [(.int (1 : Int32)), (.int (1 : Int32))]))
          refine own_go ?_ (fun tq kt => XS.icmpNo X76.here hx rfl (hb hby at_184) rfl (teq (rfl : (1 : Int32) = (1 : Int32))).2 kt)
          show own_Fin _ _ _ _ (T76.setTop (mkF m 187 #[.val (.int p1), .val (.int p2), .val (.int p3), .val (.int p4), .val (.int (0 : Int32)), .val (.int (0 : Int32)), .val (.ref mo), .val (.ref mo), .val (.int (21 : Int32)), .val (.int (21 : Int32)), .val (.int n1), .val (.int n2), .val (.ref b65), .val (.ref b69), .val (.int (1 : Int32)), .val (.int (0 : Int32)), .val (.int (1 : Int32)), .val (.int (0 : Int32))] []))
          refine own_go ?_ (fun tq kt => XS.iload X76.here hx rfl (hb hby at_187) rfl kt)
          show own_Fin _ _ _ _ (T76.setTop (mkF m 189 #[.val (.int p1), .val (.int p2), .val (.int p3), .val (.int p4), .val (.int (0 : Int32)), .val (.int (0 : Int32)), .val (.ref mo), .val (.ref mo), .val (.int (21 : Int32)), .val (.int (21 : Int32)), .val (.int n1), .val (.int n2), .val (.ref b65), .val (.ref b69), .val (.int (1 : Int32)), .val (.int (0 : Int32)), .val (.int (1 : Int32)), .val (.int (0 : Int32))] [(.int (0 : Int32))]))
          refine own_go ?_ (fun tq kt => XS.iload X76.here hx rfl (hb hby at_189) rfl kt)
          show own_Fin _ _ _ _ (T76.setTop (mkF m 191 #[.val (.int p1), .val (.int p2), .val (.int p3), .val (.int p4), .val (.int (0 : Int32)), .val (.int (0 : Int32)), .val (.ref mo), .val (.ref mo), .val (.int (21 : Int32)), .val (.int (21 : Int32)), .val (.int n1), .val (.int n2), .val (.ref b65), .val (.ref b69), .val (.int (1 : Int32)), .val (.int (0 : Int32)), .val (.int (1 : Int32)), .val (.int (0 : Int32))] [(.int (0 : Int32)), (.int (0 : Int32))]))
          refine own_go ?_ (fun tq kt => XS.icmpNo X76.here hx rfl (hb hby at_191) rfl (teq (rfl : (0 : Int32) = (0 : Int32))).2 kt)
          show own_Fin _ _ _ _ (T76.setTop (mkF m 194 #[.val (.int p1), .val (.int p2), .val (.int p3), .val (.int p4), .val (.int (0 : Int32)), .val (.int (0 : Int32)), .val (.ref mo), .val (.ref mo), .val (.int (21 : Int32)), .val (.int (21 : Int32)), .val (.int n1), .val (.int n2), .val (.ref b65), .val (.ref b69), .val (.int (1 : Int32)), .val (.int (0 : Int32)), .val (.int (1 : Int32)), .val (.int (0 : Int32))] []))
          refine own_go ?_ (fun tq kt => XS.iconst X76.here hx rfl (hb hby at_194) kt)
          show own_Fin _ _ _ _ (T76.setTop (mkF m 195 #[.val (.int p1), .val (.int p2), .val (.int p3), .val (.int p4), .val (.int (0 : Int32)), .val (.int (0 : Int32)), .val (.ref mo), .val (.ref mo), .val (.int (21 : Int32)), .val (.int (21 : Int32)), .val (.int n1), .val (.int n2), .val (.ref b65), .val (.ref b69), .val (.int (1 : Int32)), .val (.int (0 : Int32)), .val (.int (1 : Int32)), .val (.int (0 : Int32))] [(.int (1 : Int32))]))
          refine own_go ?_ (fun tq kt => XS.goto X76.here hx rfl (pc0 := 195) (pc' := 199) rfl (hb hby at_195) (by decide) (by decide) kt)
          show own_Fin _ _ _ _ (T76.setTop (mkF m 199 #[.val (.int p1), .val (.int p2), .val (.int p3), .val (.int p4), .val (.int (0 : Int32)), .val (.int (0 : Int32)), .val (.ref mo), .val (.ref mo), .val (.int (21 : Int32)), .val (.int (21 : Int32)), .val (.int n1), .val (.int n2), .val (.ref b65), .val (.ref b69), .val (.int (1 : Int32)), .val (.int (0 : Int32)), .val (.int (1 : Int32)), .val (.int (0 : Int32))] [(.int (1 : Int32))]))
          refine own_retN X76 hx (t := .boolean) Bd.returns (by simp) (hb hby at_199) hlk ?_ (by decide) (by decide)
          exact ⟨rfl, N76⟩
        · skip
          refine own_go ?_ (fun tq kt => XS.aload X71.here hx rfl (hb hby at_130) rfl rfl kt)
          show own_Fin _ _ _ _ (T71.setTop (mkF m 132 #[.val (.int p1), .val (.int p2), .val (.int p3), .val (.int p4), .val (.int (0 : Int32)), .val (.int (0 : Int32)), .val (.ref mo), .val (.ref mo), .val (.int (21 : Int32)), .val (.int (21 : Int32)), .val (.int n1), .val (.int n2), .val (.ref b65), .val (.ref b69), .unset, .unset, .unset, .unset] [(.ref b65)]))
          refine own_go ?_ (fun tq kt => XS.aload X71.here hx rfl (hb hby at_132) rfl rfl kt)
          show own_Fin _ _ _ _ (T71.setTop (mkF m 134 #[.val (.int p1), .val (.int p2), .val (.int p3), .val (.int p4), .val (.int (0 : Int32)), .val (.int (0 : Int32)), .val (.ref mo), .val (.ref mo), .val (.int (21 : Int32)), .val (.int (21 : Int32)), .val (.int n1), .val (.int n2), .val (.ref b65), .val (.ref b69), .unset, .unset, .unset, .unset] [(.ref b69), (.ref b65)]))
          obtain ⟨cq77, kq77, q77a, q77b, q77c⟩ := isOf hZ e71' (((A65.keep K67).ext E69).keep K71)
          obtain ⟨_, _, ⟨T77, L77, k77, n77⟩, -, X77, ⟨Lc77, hQ77, l77, y77, z77⟩, st77⟩ := X71.virtualBack hx (y := (⟨"com/example/ballast_ledger/ballastledger/CreditRating", "isBelow", "(Lcom/example/ballast_ledger/ballastledger/CreditRating;)Z"⟩ : MethodName)) (z := (⟨"com/example/ballast_ledger/ballastledger/CreditRating", "isBelow", "(Lcom/example/ballast_ledger/ballastledger/CreditRating;)Z"⟩ : MethodName)) hown (mvT hZ (hw _ (List.mem_of_getElem? (i := 36) rfl))) (mvT hZ (hw _ (List.mem_of_getElem? (i := 37) rfl))) (notFace_of_selects (args := #[]) (mvT hZ (hw _ (List.mem_of_getElem? (i := 39) rfl)))) (mvT hZ (hw _ (List.mem_of_getElem? (i := 39) rfl))) (mvT hZ (hw _ (List.mem_of_getElem? (i := 38) rfl))) (by decide) (backOf (W := 0) (rm5 l Z a0 hw [] b65 b69 n1 n2 (0 : Int32) h71 n0 zs72 ((F67.ext E69).keep K71 (ninS ne_b65_b69 nin0)) F71 ⟨fun q => absurd q h21, fun _ => rfl⟩) hZ (hw _ (List.mem_of_getElem? (i := 40) rfl)) (hw _ (List.mem_of_getElem? (i := 6) rfl)) (by decide) (by decide)) q77a q77c (g := (mkF m 134 #[.val (.int p1), .val (.int p2), .val (.int p3), .val (.int p4), .val (.int (0 : Int32)), .val (.int (0 : Int32)), .val (.ref mo), .val (.ref mo), .val (.int (21 : Int32)), .val (.int (21 : Int32)), .val (.int n1), .val (.int n2), .val (.ref b65), .val (.ref b69), .unset, .unset, .unset, .unset] [(.ref b69), (.ref b65)])) rfl (by rw [hml]; rfl) (Steps.refl _) (argsL := [(.ref b69)]) (rest := []) (lenOf own_pd3 rfl) rfl (by show 2 * 0 + _ ≤ _; exact Nat.le_of_eq rfl) (hb hby at_134) (fun _ _ => ⟨rfl, e71', (by decide : 2 + 0 ≤ _), (by decide : 4 + 0 ≤ _)⟩)
          dsimp only [Pt.U, Pt.locs, Pt.cells, Pt.slots] at X77 l77 y77 z77 st77 hQ77
          subst l77 y77 z77
          obtain ⟨rfl, N77q, e77⟩ := hQ77
          have N77 := Fr.app N71 N77q
          refine own_go ?_ (fun tq kt => st77.trans kt)
          show own_Fin _ _ _ _ (T77.setTop (mkF m 137 #[.val (.int p1), .val (.int p2), .val (.int p3), .val (.int p4), .val (.int (0 : Int32)), .val (.int (0 : Int32)), .val (.ref mo), .val (.ref mo), .val (.int (21 : Int32)), .val (.int (21 : Int32)), .val (.int n1), .val (.int n2), .val (.ref b65), .val (.ref b69), .unset, .unset, .unset, .unset] [(.int (0 : Int32))]))
          refine own_go ?_ (fun tq kt => XS.istore X77.here hx rfl (hb hby at_137) rfl (l' := #[.val (.int p1), .val (.int p2), .val (.int p3), .val (.int p4), .val (.int (0 : Int32)), .val (.int (0 : Int32)), .val (.ref mo), .val (.ref mo), .val (.int (21 : Int32)), .val (.int (21 : Int32)), .val (.int n1), .val (.int n2), .val (.ref b65), .val (.ref b69), .val (.int (0 : Int32)), .unset, .unset, .unset]) rfl kt)
          show own_Fin _ _ _ _ (T77.setTop (mkF m 139 #[.val (.int p1), .val (.int p2), .val (.int p3), .val (.int p4), .val (.int (0 : Int32)), .val (.int (0 : Int32)), .val (.ref mo), .val (.ref mo), .val (.int (21 : Int32)), .val (.int (21 : Int32)), .val (.int n1), .val (.int n2), .val (.ref b65), .val (.ref b69), .val (.int (0 : Int32)), .unset, .unset, .unset] []))
          refine own_go ?_ (fun tq kt => XS.aload X77.here hx rfl (hb hby at_139) rfl rfl kt)
          show own_Fin _ _ _ _ (T77.setTop (mkF m 141 #[.val (.int p1), .val (.int p2), .val (.int p3), .val (.int p4), .val (.int (0 : Int32)), .val (.int (0 : Int32)), .val (.ref mo), .val (.ref mo), .val (.int (21 : Int32)), .val (.int (21 : Int32)), .val (.int n1), .val (.int n2), .val (.ref b65), .val (.ref b69), .val (.int (0 : Int32)), .unset, .unset, .unset] [(.ref b69)]))
          refine own_go ?_ (fun tq kt => XS.aload X77.here hx rfl (hb hby at_141) rfl rfl kt)
          show own_Fin _ _ _ _ (T77.setTop (mkF m 143 #[.val (.int p1), .val (.int p2), .val (.int p3), .val (.int p4), .val (.int (0 : Int32)), .val (.int (0 : Int32)), .val (.ref mo), .val (.ref mo), .val (.int (21 : Int32)), .val (.int (21 : Int32)), .val (.int n1), .val (.int n2), .val (.ref b65), .val (.ref b69), .val (.int (0 : Int32)), .unset, .unset, .unset] [(.ref b65), (.ref b69)]))
          obtain ⟨cq78, kq78, q78a, q78b, q78c⟩ := isOf hZ e77 (A69.keep K71)
          obtain ⟨_, _, ⟨T78, L78, k78, n78⟩, -, X78, ⟨Lc78, hQ78, l78, y78, z78⟩, st78⟩ := X77.virtualBack hx (y := (⟨"com/example/ballast_ledger/ballastledger/CreditRating", "isBelow", "(Lcom/example/ballast_ledger/ballastledger/CreditRating;)Z"⟩ : MethodName)) (z := (⟨"com/example/ballast_ledger/ballastledger/CreditRating", "isBelow", "(Lcom/example/ballast_ledger/ballastledger/CreditRating;)Z"⟩ : MethodName)) hown (mvT hZ (hw _ (List.mem_of_getElem? (i := 36) rfl))) (mvT hZ (hw _ (List.mem_of_getElem? (i := 37) rfl))) (notFace_of_selects (args := #[]) (mvT hZ (hw _ (List.mem_of_getElem? (i := 39) rfl)))) (mvT hZ (hw _ (List.mem_of_getElem? (i := 39) rfl))) (mvT hZ (hw _ (List.mem_of_getElem? (i := 38) rfl))) (by decide) (backOf (W := 0) (rm5 l Z a0 hw [] b69 b65 n2 n1 (0 : Int32) h71 n0 zs72 F71 ((F67.ext E69).keep K71 (ninS ne_b65_b69 nin0)) ⟨fun q => absurd q h12, fun _ => rfl⟩) hZ (hw _ (List.mem_of_getElem? (i := 40) rfl)) (hw _ (List.mem_of_getElem? (i := 6) rfl)) (by decide) (by decide)) q78a q78c (g := (mkF m 143 #[.val (.int p1), .val (.int p2), .val (.int p3), .val (.int p4), .val (.int (0 : Int32)), .val (.int (0 : Int32)), .val (.ref mo), .val (.ref mo), .val (.int (21 : Int32)), .val (.int (21 : Int32)), .val (.int n1), .val (.int n2), .val (.ref b65), .val (.ref b69), .val (.int (0 : Int32)), .unset, .unset, .unset] [(.ref b65), (.ref b69)])) rfl (by rw [hml]; rfl) (Steps.refl _) (argsL := [(.ref b65)]) (rest := []) (lenOf own_pd3 rfl) rfl (by show 2 * 0 + _ ≤ _; exact Nat.le_of_eq rfl) (hb hby at_143) (fun _ _ => ⟨rfl, e77, (by decide : 2 + 0 ≤ _), (by decide : 4 + 0 ≤ _)⟩)
          dsimp only [Pt.U, Pt.locs, Pt.cells, Pt.slots] at X78 l78 y78 z78 st78 hQ78
          subst l78 y78 z78
          obtain ⟨rfl, N78q, e78⟩ := hQ78
          have N78 := Fr.app N77 N78q
          refine own_go ?_ (fun tq kt => st78.trans kt)
          show own_Fin _ _ _ _ (T78.setTop (mkF m 146 #[.val (.int p1), .val (.int p2), .val (.int p3), .val (.int p4), .val (.int (0 : Int32)), .val (.int (0 : Int32)), .val (.ref mo), .val (.ref mo), .val (.int (21 : Int32)), .val (.int (21 : Int32)), .val (.int n1), .val (.int n2), .val (.ref b65), .val (.ref b69), .val (.int (0 : Int32)), .unset, .unset, .unset] [(.int (0 : Int32))]))
          refine own_go ?_ (fun tq kt => XS.istore X78.here hx rfl (hb hby at_146) rfl (l' := #[.val (.int p1), .val (.int p2), .val (.int p3), .val (.int p4), .val (.int (0 : Int32)), .val (.int (0 : Int32)), .val (.ref mo), .val (.ref mo), .val (.int (21 : Int32)), .val (.int (21 : Int32)), .val (.int n1), .val (.int n2), .val (.ref b65), .val (.ref b69), .val (.int (0 : Int32)), .val (.int (0 : Int32)), .unset, .unset]) rfl kt)
          show own_Fin _ _ _ _ (T78.setTop (mkF m 148 #[.val (.int p1), .val (.int p2), .val (.int p3), .val (.int p4), .val (.int (0 : Int32)), .val (.int (0 : Int32)), .val (.ref mo), .val (.ref mo), .val (.int (21 : Int32)), .val (.int (21 : Int32)), .val (.int n1), .val (.int n2), .val (.ref b65), .val (.ref b69), .val (.int (0 : Int32)), .val (.int (0 : Int32)), .unset, .unset] []))
          refine own_go ?_ (fun tq kt => XS.iload X78.here hx rfl (hb hby at_148) rfl kt)
          show own_Fin _ _ _ _ (T78.setTop (mkF m 150 #[.val (.int p1), .val (.int p2), .val (.int p3), .val (.int p4), .val (.int (0 : Int32)), .val (.int (0 : Int32)), .val (.ref mo), .val (.ref mo), .val (.int (21 : Int32)), .val (.int (21 : Int32)), .val (.int n1), .val (.int n2), .val (.ref b65), .val (.ref b69), .val (.int (0 : Int32)), .val (.int (0 : Int32)), .unset, .unset] [(.int n1)]))
          refine own_go ?_ (fun tq kt => XS.iload X78.here hx rfl (hb hby at_150) rfl kt)
          show own_Fin _ _ _ _ (T78.setTop (mkF m 152 #[.val (.int p1), .val (.int p2), .val (.int p3), .val (.int p4), .val (.int (0 : Int32)), .val (.int (0 : Int32)), .val (.ref mo), .val (.ref mo), .val (.int (21 : Int32)), .val (.int (21 : Int32)), .val (.int n1), .val (.int n2), .val (.ref b65), .val (.ref b69), .val (.int (0 : Int32)), .val (.int (0 : Int32)), .unset, .unset] [(.int n2), (.int n1)]))
          refine own_go ?_ (fun tq kt => XS.isub X78.here hx rfl (hb hby at_152) rfl kt)
          show own_Fin _ _ _ _ (T78.setTop (mkF m 153 #[.val (.int p1), .val (.int p2), .val (.int p3), .val (.int p4), .val (.int (0 : Int32)), .val (.int (0 : Int32)), .val (.ref mo), .val (.ref mo), .val (.int (21 : Int32)), .val (.int (21 : Int32)), .val (.int n1), .val (.int n2), .val (.ref b65), .val (.ref b69), .val (.int (0 : Int32)), .val (.int (0 : Int32)), .unset, .unset] [(.int (n1 - n2))]))
          refine own_go ?_ (fun tq kt => XS.iconst X78.here hx rfl (hb hby at_153) kt)
          show own_Fin _ _ _ _ (T78.setTop (mkF m 154 #[.val (.int p1), .val (.int p2), .val (.int p3), .val (.int p4), .val (.int (0 : Int32)), .val (.int (0 : Int32)), .val (.ref mo), .val (.ref mo), .val (.int (21 : Int32)), .val (.int (21 : Int32)), .val (.int n1), .val (.int n2), .val (.ref b65), .val (.ref b69), .val (.int (0 : Int32)), .val (.int (0 : Int32)), .unset, .unset] [(.int (1 : Int32)), (.int (n1 - n2))]))
          refine own_go ?_ (fun tq kt => XS.icmpYes X78.here hx rfl (pc0 := 154) (pc' := 161) rfl (hb hby at_154) rfl (tlt ((hs.2 h21) : (n1 - n2) < (1 : Int32))).1 (by decide) (by decide) kt)
          show own_Fin _ _ _ _ (T78.setTop (mkF m 161 #[.val (.int p1), .val (.int p2), .val (.int p3), .val (.int p4), .val (.int (0 : Int32)), .val (.int (0 : Int32)), .val (.ref mo), .val (.ref mo), .val (.int (21 : Int32)), .val (.int (21 : Int32)), .val (.int n1), .val (.int n2), .val (.ref b65), .val (.ref b69), .val (.int (0 : Int32)), .val (.int (0 : Int32)), .unset, .unset] []))
          refine own_go ?_ (fun tq kt => XS.iconst X78.here hx rfl (hb hby at_161) kt)
          show own_Fin _ _ _ _ (T78.setTop (mkF m 162 #[.val (.int p1), .val (.int p2), .val (.int p3), .val (.int p4), .val (.int (0 : Int32)), .val (.int (0 : Int32)), .val (.ref mo), .val (.ref mo), .val (.int (21 : Int32)), .val (.int (21 : Int32)), .val (.int n1), .val (.int n2), .val (.ref b65), .val (.ref b69), .val (.int (0 : Int32)), .val (.int (0 : Int32)), .unset, .unset] [(.int (0 : Int32))]))
          refine own_go ?_ (fun tq kt => XS.istore X78.here hx rfl (hb hby at_162) rfl (l' := #[.val (.int p1), .val (.int p2), .val (.int p3), .val (.int p4), .val (.int (0 : Int32)), .val (.int (0 : Int32)), .val (.ref mo), .val (.ref mo), .val (.int (21 : Int32)), .val (.int (21 : Int32)), .val (.int n1), .val (.int n2), .val (.ref b65), .val (.ref b69), .val (.int (0 : Int32)), .val (.int (0 : Int32)), .val (.int (0 : Int32)), .unset]) rfl kt)
          show own_Fin _ _ _ _ (T78.setTop (mkF m 164 #[.val (.int p1), .val (.int p2), .val (.int p3), .val (.int p4), .val (.int (0 : Int32)), .val (.int (0 : Int32)), .val (.ref mo), .val (.ref mo), .val (.int (21 : Int32)), .val (.int (21 : Int32)), .val (.int n1), .val (.int n2), .val (.ref b65), .val (.ref b69), .val (.int (0 : Int32)), .val (.int (0 : Int32)), .val (.int (0 : Int32)), .unset] []))
          refine own_go ?_ (fun tq kt => XS.iload X78.here hx rfl (hb hby at_164) rfl kt)
          show own_Fin _ _ _ _ (T78.setTop (mkF m 166 #[.val (.int p1), .val (.int p2), .val (.int p3), .val (.int p4), .val (.int (0 : Int32)), .val (.int (0 : Int32)), .val (.ref mo), .val (.ref mo), .val (.int (21 : Int32)), .val (.int (21 : Int32)), .val (.int n1), .val (.int n2), .val (.ref b65), .val (.ref b69), .val (.int (0 : Int32)), .val (.int (0 : Int32)), .val (.int (0 : Int32)), .unset] [(.int n2)]))
          refine own_go ?_ (fun tq kt => XS.iload X78.here hx rfl (hb hby at_166) rfl kt)
          show own_Fin _ _ _ _ (T78.setTop (mkF m 168 #[.val (.int p1), .val (.int p2), .val (.int p3), .val (.int p4), .val (.int (0 : Int32)), .val (.int (0 : Int32)), .val (.ref mo), .val (.ref mo), .val (.int (21 : Int32)), .val (.int (21 : Int32)), .val (.int n1), .val (.int n2), .val (.ref b65), .val (.ref b69), .val (.int (0 : Int32)), .val (.int (0 : Int32)), .val (.int (0 : Int32)), .unset] [(.int n1), (.int n2)]))
          refine own_go ?_ (fun tq kt => XS.isub X78.here hx rfl (hb hby at_168) rfl kt)
          show own_Fin _ _ _ _ (T78.setTop (mkF m 169 #[.val (.int p1), .val (.int p2), .val (.int p3), .val (.int p4), .val (.int (0 : Int32)), .val (.int (0 : Int32)), .val (.ref mo), .val (.ref mo), .val (.int (21 : Int32)), .val (.int (21 : Int32)), .val (.int n1), .val (.int n2), .val (.ref b65), .val (.ref b69), .val (.int (0 : Int32)), .val (.int (0 : Int32)), .val (.int (0 : Int32)), .unset] [(.int (n2 - n1))]))
          refine own_go ?_ (fun tq kt => XS.iconst X78.here hx rfl (hb hby at_169) kt)
          show own_Fin _ _ _ _ (T78.setTop (mkF m 170 #[.val (.int p1), .val (.int p2), .val (.int p3), .val (.int p4), .val (.int (0 : Int32)), .val (.int (0 : Int32)), .val (.ref mo), .val (.ref mo), .val (.int (21 : Int32)), .val (.int (21 : Int32)), .val (.int n1), .val (.int n2), .val (.ref b65), .val (.ref b69), .val (.int (0 : Int32)), .val (.int (0 : Int32)), .val (.int (0 : Int32)), .unset] [(.int (1 : Int32)), (.int (n2 - n1))]))
          refine own_go ?_ (fun tq kt => XS.icmpYes X78.here hx rfl (pc0 := 170) (pc' := 177) rfl (hb hby at_170) rfl (tlt ((hs'.2 h12) : (n2 - n1) < (1 : Int32))).1 (by decide) (by decide) kt)
          show own_Fin _ _ _ _ (T78.setTop (mkF m 177 #[.val (.int p1), .val (.int p2), .val (.int p3), .val (.int p4), .val (.int (0 : Int32)), .val (.int (0 : Int32)), .val (.ref mo), .val (.ref mo), .val (.int (21 : Int32)), .val (.int (21 : Int32)), .val (.int n1), .val (.int n2), .val (.ref b65), .val (.ref b69), .val (.int (0 : Int32)), .val (.int (0 : Int32)), .val (.int (0 : Int32)), .unset] []))
          refine own_go ?_ (fun tq kt => XS.iconst X78.here hx rfl (hb hby at_177) kt)
          show own_Fin _ _ _ _ (T78.setTop (mkF m 178 #[.val (.int p1), .val (.int p2), .val (.int p3), .val (.int p4), .val (.int (0 : Int32)), .val (.int (0 : Int32)), .val (.ref mo), .val (.ref mo), .val (.int (21 : Int32)), .val (.int (21 : Int32)), .val (.int n1), .val (.int n2), .val (.ref b65), .val (.ref b69), .val (.int (0 : Int32)), .val (.int (0 : Int32)), .val (.int (0 : Int32)), .unset] [(.int (0 : Int32))]))
          refine own_go ?_ (fun tq kt => XS.istore X78.here hx rfl (hb hby at_178) rfl (l' := #[.val (.int p1), .val (.int p2), .val (.int p3), .val (.int p4), .val (.int (0 : Int32)), .val (.int (0 : Int32)), .val (.ref mo), .val (.ref mo), .val (.int (21 : Int32)), .val (.int (21 : Int32)), .val (.int n1), .val (.int n2), .val (.ref b65), .val (.ref b69), .val (.int (0 : Int32)), .val (.int (0 : Int32)), .val (.int (0 : Int32)), .val (.int (0 : Int32))]) rfl kt)
          show own_Fin _ _ _ _ (T78.setTop (mkF m 180 #[.val (.int p1), .val (.int p2), .val (.int p3), .val (.int p4), .val (.int (0 : Int32)), .val (.int (0 : Int32)), .val (.ref mo), .val (.ref mo), .val (.int (21 : Int32)), .val (.int (21 : Int32)), .val (.int n1), .val (.int n2), .val (.ref b65), .val (.ref b69), .val (.int (0 : Int32)), .val (.int (0 : Int32)), .val (.int (0 : Int32)), .val (.int (0 : Int32))] []))
          refine own_go ?_ (fun tq kt => XS.iload X78.here hx rfl (hb hby at_180) rfl kt)
          show own_Fin _ _ _ _ (T78.setTop (mkF m 182 #[.val (.int p1), .val (.int p2), .val (.int p3), .val (.int p4), .val (.int (0 : Int32)), .val (.int (0 : Int32)), .val (.ref mo), .val (.ref mo), .val (.int (21 : Int32)), .val (.int (21 : Int32)), .val (.int n1), .val (.int n2), .val (.ref b65), .val (.ref b69), .val (.int (0 : Int32)), .val (.int (0 : Int32)), .val (.int (0 : Int32)), .val (.int (0 : Int32))] [(.int (0 : Int32))]))
          refine own_go ?_ (fun tq kt => XS.iload X78.here hx rfl (hb hby at_182) rfl kt)
          show own_Fin _ _ _ _ (T78.setTop (mkF m 184 #[.val (.int p1), .val (.int p2), .val (.int p3), .val (.int p4), .val (.int (0 : Int32)), .val (.int (0 : Int32)), .val (.ref mo), .val (.ref mo), .val (.int (21 : Int32)), .val (.int (21 : Int32)), .val (.int n1), .val (.int n2), .val (.ref b65), .val (.ref b69), .val (.int (0 : Int32)), .val (.int (0 : Int32)), .val (.int (0 : Int32)), .val (.int (0 : Int32))] [(.int (0 : Int32)), (.int (0 : Int32))]))
          refine own_go ?_ (fun tq kt => XS.icmpNo X78.here hx rfl (hb hby at_184) rfl (teq (rfl : (0 : Int32) = (0 : Int32))).2 kt)
          show own_Fin _ _ _ _ (T78.setTop (mkF m 187 #[.val (.int p1), .val (.int p2), .val (.int p3), .val (.int p4), .val (.int (0 : Int32)), .val (.int (0 : Int32)), .val (.ref mo), .val (.ref mo), .val (.int (21 : Int32)), .val (.int (21 : Int32)), .val (.int n1), .val (.int n2), .val (.ref b65), .val (.ref b69), .val (.int (0 : Int32)), .val (.int (0 : Int32)), .val (.int (0 : Int32)), .val (.int (0 : Int32))] []))
          refine own_go ?_ (fun tq kt => XS.iload X78.here hx rfl (hb hby at_187) rfl kt)
          show own_Fin _ _ _ _ (T78.setTop (mkF m 189 #[.val (.int p1), .val (.int p2), .val (.int p3), .val (.int p4), .val (.int (0 : Int32)), .val (.int (0 : Int32)), .val (.ref mo), .val (.ref mo), .val (.int (21 : Int32)), .val (.int (21 : Int32)), .val (.int n1), .val (.int n2), .val (.ref b65), .val (.ref b69), .val (.int (0 : Int32)), .val (.int (0 : Int32)), .val (.int (0 : Int32)), .val (.int (0 : Int32))] [(.int (0 : Int32))]))
          refine own_go ?_ (fun tq kt => XS.iload X78.here hx rfl (hb hby at_189) rfl kt)
          show own_Fin _ _ _ _ (T78.setTop (mkF m 191 #[.val (.int p1), .val (.int p2), .val (.int p3), .val (.int p4), .val (.int (0 : Int32)), .val (.int (0 : Int32)), .val (.ref mo), .val (.ref mo), .val (.int (21 : Int32)), .val (.int (21 : Int32)), .val (.int n1), .val (.int n2), .val (.ref b65), .val (.ref b69), .val (.int (0 : Int32)), .val (.int (0 : Int32)), .val (.int (0 : Int32)), .val (.int (0 : Int32))] [(.int (0 : Int32)), (.int (0 : Int32))]))
          refine own_go ?_ (fun tq kt => XS.icmpNo X78.here hx rfl (hb hby at_191) rfl (teq (rfl : (0 : Int32) = (0 : Int32))).2 kt)
          show own_Fin _ _ _ _ (T78.setTop (mkF m 194 #[.val (.int p1), .val (.int p2), .val (.int p3), .val (.int p4), .val (.int (0 : Int32)), .val (.int (0 : Int32)), .val (.ref mo), .val (.ref mo), .val (.int (21 : Int32)), .val (.int (21 : Int32)), .val (.int n1), .val (.int n2), .val (.ref b65), .val (.ref b69), .val (.int (0 : Int32)), .val (.int (0 : Int32)), .val (.int (0 : Int32)), .val (.int (0 : Int32))] []))
          refine own_go ?_ (fun tq kt => XS.iconst X78.here hx rfl (hb hby at_194) kt)
          show own_Fin _ _ _ _ (T78.setTop (mkF m 195 #[.val (.int p1), .val (.int p2), .val (.int p3), .val (.int p4), .val (.int (0 : Int32)), .val (.int (0 : Int32)), .val (.ref mo), .val (.ref mo), .val (.int (21 : Int32)), .val (.int (21 : Int32)), .val (.int n1), .val (.int n2), .val (.ref b65), .val (.ref b69), .val (.int (0 : Int32)), .val (.int (0 : Int32)), .val (.int (0 : Int32)), .val (.int (0 : Int32))] [(.int (1 : Int32))]))
          refine own_go ?_ (fun tq kt => XS.goto X78.here hx rfl (pc0 := 195) (pc' := 199) rfl (hb hby at_195) (by decide) (by decide) kt)
          show own_Fin _ _ _ _ (T78.setTop (mkF m 199 #[.val (.int p1), .val (.int p2), .val (.int p3), .val (.int p4), .val (.int (0 : Int32)), .val (.int (0 : Int32)), .val (.ref mo), .val (.ref mo), .val (.int (21 : Int32)), .val (.int (21 : Int32)), .val (.int n1), .val (.int n2), .val (.ref b65), .val (.ref b69), .val (.int (0 : Int32)), .val (.int (0 : Int32)), .val (.int (0 : Int32)), .val (.int (0 : Int32))] [(.int (1 : Int32))]))
          refine own_retN X78 hx (t := .boolean) Bd.returns (by simp) (hb hby at_199) hlk ?_ (by decide) (by decide)
          exact ⟨rfl, N78⟩
set_option maxRecDepth 65536 in
set_option maxHeartbeats 40000000 in
theorem comes_1 {Post : Tables → Env → Array Value → State → Outcome → State → Prop} (hpost : ∀ tb e args s v u, (limb_1_1.after args s (.returned v) u = true ∧ limb_1_2.after args s (.returned v) u = true ∧ True) → FrameEnd s (.returned v) u (Jvm.fieldLocs frame_1_writes args s ++ Jvm.arrayLocs frame_1_arrays args s ++ Jvm.staticLocs frame_1_statics s) 16 128 → Post tb e args s (.returned v) u) :
    ArmFor flags0 classFile x code maxLocals ret World_1 tables_1 room_1 Calls_1 rest_1 Pre_1 Post := by
  intro l hfl _ _ p e ha hc hk s m args below hf hA hF happ hP
  obtain ⟨hcalls, hrest, hpre⟩ := hP
  obtain ⟨-, -, -, hnamed, -, -, -, hat⟩ := (Spec.applies_iff hf).mp happ
  obtain ⟨hg, hn⟩ := and_e (Cond.before_iff.mp (show (Jvm.Cond.and given_1 narrow_1).before args s = true from hpre))
  obtain ⟨g0, hg⟩ := and_e hg
  obtain ⟨g1, hg⟩ := and_e hg
  obtain ⟨g2, hg⟩ := and_e hg
  obtain ⟨g3, g4⟩ := and_e hg
  obtain ⟨w0, w1, w2, w3, rfl⟩ : ∃ w0 w1 w2 w3 : Value, args = #[w0, w1, w2, w3] := by
    have hs : args.size = 4 := by simpa [Cond.value, given_1] using g0
    obtain ⟨L⟩ := args
    match L, hs with
    | [w0, w1, w2, w3], _ => exact ⟨w0, w1, w2, w3, rfl⟩
  have hw := fun d (hd : d ∈ tables_1) => atoms_spec (ws := Jvm.Cond.code x code maxLocals ret :: tables_1) hat d (List.mem_cons_of_mem _ hd)
  have hfit : Fit s := fun {y c} hc i hi => by
    obtain ⟨ha, rfl⟩ := Array.getElem?_eq_some_iff.mp hc
    have q := List.all_eq_true.mp ((Array.all_eq_true_iff_forall_mem.mp hF) _ (Array.getElem_mem ha)) i (List.mem_range.mpr hi)
    simpa [Array.getElem?_eq_getElem hi] using q
  obtain ⟨i0, ei0⟩ := is_v g1
  obtain rfl : w0 = (.int i0) := Option.some.inj ei0
  obtain ⟨i1, ei1⟩ := is_v g2
  obtain rfl : w1 = (.int i1) := Option.some.inj ei1
  obtain ⟨i2, ei2⟩ := is_v g3
  obtain rfl : w2 = (.int i2) := Option.some.inj ei2
  obtain ⟨i3, ei3⟩ := is_v g4
  obtain rfl : w3 = (.int i3) := Option.some.inj ei3
  obtain ⟨n0, hn⟩ := and_e hn
  obtain ⟨n1, hn⟩ := and_e hn
  obtain ⟨n2, hn⟩ := and_e hn
  obtain ⟨n3, hn⟩ := and_e hn
  obtain ⟨n4, hn⟩ := and_e hn
  obtain ⟨n5, hn⟩ := and_e hn
  obtain ⟨n6, n7⟩ := and_e hn
  obtain ⟨sp, esp⟩ := exa_v n0
  obtain ⟨ssc, essc⟩ := exa_v n1
  obtain ⟨sel, esel⟩ := arr_v n2
  obtain ⟨scl, sAR⟩ := Arr.start esel n2
  have sAS := own_siz (own_len esel sAR n3)
  have sall := And.intro (Sta.start esp (Or.inr ⟨(hw _ (List.mem_of_getElem? (i := 1) rfl)), (hw _ (List.mem_of_getElem? (i := 2) rfl))⟩)) (And.intro (own_fld esp essc) (And.intro (Exa.start essc n1) (own_fld essc esel)))
  obtain ⟨mo, emo⟩ := exa_v n4
  obtain ⟨msc, emsc⟩ := exa_v n5
  obtain ⟨mel, emel⟩ := arr_v n6
  obtain ⟨mcl, mAR⟩ := Arr.start emel n6
  have mAS := own_siz (own_len emel mAR n7)
  have mall := And.intro (Sta.start emo (Or.inr ⟨(hw _ (List.mem_of_getElem? (i := 1) rfl)), (hw _ (List.mem_of_getElem? (i := 42) rfl))⟩)) (And.intro (own_fld emo emsc) (And.intro (Exa.start emsc n5) (own_fld emsc emel)))
  obtain ⟨n, o, h1, h2, h3, _, L, rfl, ⟨rfl, N⟩, hq⟩ := rm0 l s _ hw tables_1 i0 i1 i2 i3 sp ssc sel scl mo msc mel mcl s.heap s.heap.size (Nat.le_refl _) (Old.start s) sall.1 sall.2.1 sall.2.2.1 sall.2.2.2 sAR sAS (by decide) mall.1 mall.2.1 mall.2.2.1 mall.2.2.2 mAR mAS (by decide) p e ha hc hk s m _ below hf ((Spec.applies_iff_loose hf).mp happ).1 ⟨rfl, State.Warmed39.refl s, rfl⟩ trivial
  refine ⟨n, _, h1, h2, h3, hpost _ _ _ _ _ _ ⟨Cond.after_iff.mpr rfl, Cond.after_iff.mpr (eq_i res_at (Term.int_eval (1)) rfl), trivial⟩ ⟨hq.1, hq.2.1, (hq.2.2.sift fun y hy => Or.inr (N y hy)).mono (by decide) (by decide)⟩⟩
theorem main_1_1 : Claimed_1_1 := comes_1 fun _ _ _ _ _ _ h hF => ⟨h.1, hF⟩
theorem main_1_2 : Claimed_1_2 := comes_1 fun _ _ _ _ _ _ h hF => ⟨h.2.1, hF⟩
end Jvm.Pilot.@@N@@
namespace Jvm.Pilot.@@N@@
open Jvm Jvm.ClassFile Sem Op Lib Jvm.Free Jvm.Stand Jvm.Pilot.@@N@@.Jvm.D
/-! MADE BY PROGRAM (witnessworld.py) out of the Statement's table words and the real class files: 24 classes; the members and pool entries that the words name. The judged class is class 1, her method 1. -/
namespace start1
open Jvm.ClassFile
def u (s : String) : CpInfo := .utf8 (stringToUtf16 s)
/-- a pool by its gaps: so many unusable entries, then the entry; so many at the end -/
def gap : Nat → List CpInfo → List CpInfo
  | 0, r => r
  | n + 1, r => .unusable :: gap n r
def poolList (es : List (Nat × CpInfo)) (last : Nat) : List CpInfo := es.foldr (fun e r => gap e.1 (e.2 :: r)) (gap last [])
def pool (es : List (Nat × CpInfo)) (last : Nat) : Array CpInfo := ⟨poolList es last⟩
def fileOf (pool : Array CpInfo) (this : Nat) (attrs : Array Attribute := #[]) (ms : Array MethodInfo := #[]) (fl : Nat := 33) (sup : Nat := 0) (ifs : Array Nat := #[]) (fds : Array FieldInfo := #[]) : ClassFile where
  minorVersion := 0
  majorVersion := 65
  constantPool := pool
  accessFlags := fl
  thisClass := this
  superClass := sup
  interfaces := ifs
  fields := fds
  methods := ms
  attributes := attrs
def plain (name : String) (sup : Option ClassId) : Class where
  name := name
  kind := .ordinary
  loader := none
  accessFlags := 33
  super := sup
  interfaces := #[]
  cf := none
  fields := #[]
  methods := #[]
  instanceTypes := #[]
  staticTypes := #[]
  resolved := #[]
  callSites := []
  init := .initialized
  statics := none
  mirror := none

def pool0 : Array CpInfo := pool [(5, u "<init>"), (0, u "()V"), (1, .class_ 10), (1, u "java/lang/Object")] 113

def k0c0 : Code := { maxStack := 0, maxLocals := 1, code := object_method_1_code, exceptionTable := #[], attributes := #[] }
def k0m0 : Method := { name := "<init>", desc := "()V", sig := { parameters := [], returnType := none }, accessFlags := 1, code := some k0c0 }
/-- java/lang/Object -/
def k0 : Class := { plain "java/lang/Object" none with
  accessFlags := 33
  interfaces := #[]
  cf := some (fileOf pool0 8 #[] #[{ accessFlags := 1, nameIndex := 5, descriptorIndex := 6, attributes := #[] }] 33 0 #[] #[])
  fields := #[]
  methods := #[k0m0]
  instanceTypes := #[]
  staticTypes := #[]
  resolved := Array.replicate 124 none
  statics := none }

def pool1 : Array CpInfo := pool [(2, .class_ 4), (1, u "java/lang/Object"), (0, u "<init>"), (0, u "()V"), (0, .fieldref 8 9), (0, .class_ 10), (0, .nameAndType 11 12), (0, u "com/example/ballast_ledger/ballastledger/CreditRating$Agency"), (0, u "SP"), (0, u "Lcom/example/ballast_ledger/ballastledger/CreditRating$Agency;"), (0, .fieldref 8 14), (0, .nameAndType 15 12), (0, u "MOODYS"), (0, .integer 2147483647), (0, .class_ 18), (0, u "com/example/ballast_ledger/ballastledger/CreditRating"), (0, .methodref 17 20), (0, .nameAndType 5 21), (0, u "(Lcom/example/ballast_ledger/ballastledger/CreditRating$Agency;I)V"), (0, .methodref 17 23), (0, .nameAndType 24 25), (0, u "isBelow"), (0, u "(Lcom/example/ballast_ledger/ballastledger/CreditRating;)Z"), (0, .class_ 27), (0, u "com/example/ballast_ledger/ballastledger/CreditRatingIsBelowPinLaw"), (2, u "law"), (0, u "(IIII)Z")] 5

def k1m0 : Method := { name := "<init>", desc := "()V", sig := { parameters := [], returnType := none }, accessFlags := 1, code := none }
def k1c1 : Code := { maxStack := 4, maxLocals := 18, code := code, exceptionTable := #[], attributes := #[] }
def k1m1 : Method := { name := "law", desc := "(IIII)Z", sig := { parameters := [.int, .int, .int, .int], returnType := some .boolean }, accessFlags := 9, code := some k1c1 }
/-- com/example/ballast_ledger/ballastledger/CreditRatingIsBelowPinLaw -/
def k1 : Class := { plain "com/example/ballast_ledger/ballastledger/CreditRatingIsBelowPinLaw" (some 0) with
  accessFlags := 49
  interfaces := #[]
  cf := some (fileOf pool1 26 #[] #[{ accessFlags := 1, nameIndex := 5, descriptorIndex := 6, attributes := #[] }, { accessFlags := 9, nameIndex := 30, descriptorIndex := 31, attributes := #[] }] 49 2 #[] #[])
  fields := #[]
  methods := #[k1m0, k1m1]
  instanceTypes := #[]
  staticTypes := #[]
  resolved := Array.replicate 37 none
  statics := none }

def pool2 : Array CpInfo := pool [(1, .class_ 2), (0, u "java/lang/constant/Constable"), (0, .class_ 4), (0, u "java/lang/Object")] 6

/-- java/lang/constant/Constable -/
def k2 : Class := { plain "java/lang/constant/Constable" (some 0) with
  accessFlags := 1537
  interfaces := #[]
  cf := some (fileOf pool2 1 #[] #[] 1537 3 #[] #[])
  fields := #[]
  methods := #[]
  instanceTypes := #[]
  staticTypes := #[]
  resolved := Array.replicate 11 none
  statics := none }

def pool3 : Array CpInfo := pool [(1, .class_ 2), (0, u "java/lang/Comparable"), (0, .class_ 4), (0, u "java/lang/Object")] 7

/-- java/lang/Comparable -/
def k3 : Class := { plain "java/lang/Comparable" (some 0) with
  accessFlags := 1537
  interfaces := #[]
  cf := some (fileOf pool3 1 #[] #[] 1537 3 #[] #[])
  fields := #[]
  methods := #[]
  instanceTypes := #[]
  staticTypes := #[]
  resolved := Array.replicate 12 none
  statics := none }

def pool4 : Array CpInfo := pool [(1, .class_ 2), (0, u "java/io/Serializable"), (0, .class_ 4), (0, u "java/lang/Object")] 2

/-- java/io/Serializable -/
def k4 : Class := { plain "java/io/Serializable" (some 0) with
  accessFlags := 1537
  interfaces := #[]
  cf := some (fileOf pool4 1 #[] #[] 1537 3 #[] #[])
  fields := #[]
  methods := #[]
  instanceTypes := #[]
  staticTypes := #[]
  resolved := Array.replicate 7 none
  statics := none }

def pool5 : Array CpInfo := pool [(2, .class_ 4), (1, u "java/lang/Enum"), (0, u "name"), (0, u "Ljava/lang/String;"), (2, u "ordinal"), (0, u "I"), (1, .class_ 14), (1, u "java/lang/Object"), (4, u "hash"), (86, .class_ 108), (1, u "java/lang/Enum$EnumDesc"), (2, .class_ 112), (0, u "java/lang/constant/Constable"), (0, .class_ 114), (0, u "java/lang/Comparable"), (0, .class_ 116), (0, u "java/io/Serializable")] 87

/-- java/lang/Enum -/
def k5 : Class := { plain "java/lang/Enum" (some 0) with
  accessFlags := 1057
  interfaces := #[2, 3, 4]
  cf := some (fileOf pool5 2 #[.nestMembers #[106]] #[] 1057 12 #[111, 113, 115] #[{ accessFlags := 18, nameIndex := 5, descriptorIndex := 6, attributes := #[] }, { accessFlags := 18, nameIndex := 9, descriptorIndex := 10, attributes := #[] }, { accessFlags := 2, nameIndex := 19, descriptorIndex := 10, attributes := #[] }])
  fields := #[{ name := "name", type := (.object "java/lang/String"), accessFlags := 18, slot := 0, constantValue := 0 }, { name := "ordinal", type := .int, accessFlags := 18, slot := 1, constantValue := 0 }, { name := "hash", type := .int, accessFlags := 2, slot := 2, constantValue := 0 }]
  methods := #[]
  instanceTypes := #[(.object "java/lang/String"), .int, .int]
  staticTypes := #[]
  resolved := Array.replicate 204 none
  statics := none }

def pool6 : Array CpInfo := pool [(1, .class_ 2), (0, u "com/example/ballast_ledger/ballastledger/CreditRating$Agency"), (2, u "SP"), (0, u "Lcom/example/ballast_ledger/ballastledger/CreditRating$Agency;"), (2, u "MOODYS"), (2, u "$VALUES"), (0, u "[Lcom/example/ballast_ledger/ballastledger/CreditRating$Agency;"), (6, .class_ 22), (1, u "java/lang/Enum"), (8, u "displayName"), (0, u "Ljava/lang/String;"), (2, u "possessive"), (2, u "scale"), (0, u "Ljava/util/List;"), (12, .class_ 53), (0, u "com/example/ballast_ledger/ballastledger/CreditRating")] 217

/-- com/example/ballast_ledger/ballastledger/CreditRating$Agency -/
def k6 : Class := { plain "com/example/ballast_ledger/ballastledger/CreditRating$Agency" (some 5) with
  accessFlags := 16433
  interfaces := #[]
  cf := some (fileOf pool6 1 #[.nestHost 52] #[] 16433 20 #[] #[{ accessFlags := 16409, nameIndex := 5, descriptorIndex := 6, attributes := #[] }, { accessFlags := 16409, nameIndex := 9, descriptorIndex := 6, attributes := #[] }, { accessFlags := 18, nameIndex := 31, descriptorIndex := 32, attributes := #[] }, { accessFlags := 18, nameIndex := 35, descriptorIndex := 32, attributes := #[] }, { accessFlags := 18, nameIndex := 38, descriptorIndex := 39, attributes := #[] }, { accessFlags := 4122, nameIndex := 12, descriptorIndex := 13, attributes := #[] }])
  fields := #[{ name := "SP", type := (.object "com/example/ballast_ledger/ballastledger/CreditRating$Agency"), accessFlags := 16409, slot := 0, constantValue := 0 }, { name := "MOODYS", type := (.object "com/example/ballast_ledger/ballastledger/CreditRating$Agency"), accessFlags := 16409, slot := 1, constantValue := 0 }, { name := "displayName", type := (.object "java/lang/String"), accessFlags := 18, slot := 3, constantValue := 0 }, { name := "possessive", type := (.object "java/lang/String"), accessFlags := 18, slot := 4, constantValue := 0 }, { name := "scale", type := (.object "java/util/List"), accessFlags := 18, slot := 5, constantValue := 0 }, { name := "$VALUES", type := (.array (.object "com/example/ballast_ledger/ballastledger/CreditRating$Agency")), accessFlags := 4122, slot := 2, constantValue := 0 }]
  methods := #[]
  instanceTypes := #[(.object "java/lang/String"), .int, .int, (.object "java/lang/String"), (.object "java/lang/String"), (.object "java/util/List")]
  staticTypes := #[(.object "com/example/ballast_ledger/ballastledger/CreditRating$Agency"), (.object "com/example/ballast_ledger/ballastledger/CreditRating$Agency"), (.array (.object "com/example/ballast_ledger/ballastledger/CreditRating$Agency"))]
  resolved := Array.replicate 271 none
  statics := some 0 }

def pool7 : Array CpInfo := pool [(1, .methodref 2 3), (0, .class_ 4), (0, .nameAndType 5 6), (0, u "java/lang/Object"), (0, u "<init>"), (0, u "()V"), (0, .class_ 8), (0, u "java/lang/Record")] 13

def k7c0 : Code := { maxStack := 1, maxLocals := 1, code := jdk_30_method_1_code, exceptionTable := #[], attributes := #[] }
def k7m0 : Method := { name := "<init>", desc := "()V", sig := { parameters := [], returnType := none }, accessFlags := 4, code := some k7c0 }
/-- java/lang/Record -/
def k7 : Class := { plain "java/lang/Record" (some 0) with
  accessFlags := 1057
  interfaces := #[]
  cf := some (fileOf pool7 7 #[] #[{ accessFlags := 4, nameIndex := 5, descriptorIndex := 6, attributes := #[] }] 1057 2 #[] #[])
  fields := #[]
  methods := #[k7m0]
  instanceTypes := #[]
  staticTypes := #[]
  resolved := Array.replicate 22 none
  statics := none }

def pool8 : Array CpInfo := pool [(1, .methodref 2 3), (0, .class_ 4), (0, .nameAndType 5 6), (0, u "java/lang/Record"), (0, u "<init>"), (0, u "()V"), (0, .fieldref 8 9), (0, .class_ 10), (0, .nameAndType 11 12), (0, u "com/example/ballast_ledger/ballastledger/CreditRating$Agency"), (0, u "scale"), (0, u "Ljava/util/List;"), (0, .interfaceMethodref 14 15), (0, .class_ 16), (0, .nameAndType 17 18), (0, u "java/util/List"), (0, u "size"), (0, u "()I"), (13, .fieldref 33 34), (0, .class_ 35), (0, .nameAndType 36 37), (0, u "com/example/ballast_ledger/ballastledger/CreditRating"), (0, u "agency"), (0, u "Lcom/example/ballast_ledger/ballastledger/CreditRating$Agency;"), (0, .fieldref 33 39), (0, .nameAndType 40 41), (0, u "notch"), (0, u "I"), (27, u "(Lcom/example/ballast_ledger/ballastledger/CreditRating$Agency;I)V"), (6, u "isBelow"), (0, u "(Lcom/example/ballast_ledger/ballastledger/CreditRating;)Z")] 36

def k8c0 : Code := { maxStack := 4, maxLocals := 3, code := prog_4_method_1_code, exceptionTable := #[], attributes := #[] }
def k8m0 : Method := { name := "<init>", desc := "(Lcom/example/ballast_ledger/ballastledger/CreditRating$Agency;I)V", sig := { parameters := [(.object "com/example/ballast_ledger/ballastledger/CreditRating$Agency"), .int], returnType := none }, accessFlags := 1, code := some k8c0 }
def k8c1 : Code := { maxStack := 2, maxLocals := 2, code := prog_4_method_3_code, exceptionTable := #[], attributes := #[] }
def k8m1 : Method := { name := "isBelow", desc := "(Lcom/example/ballast_ledger/ballastledger/CreditRating;)Z", sig := { parameters := [(.object "com/example/ballast_ledger/ballastledger/CreditRating")], returnType := some .boolean }, accessFlags := 1, code := some k8c1 }
/-- com/example/ballast_ledger/ballastledger/CreditRating -/
def k8 : Class := { plain "com/example/ballast_ledger/ballastledger/CreditRating" (some 7) with
  accessFlags := 49
  interfaces := #[]
  cf := some (fileOf pool8 33 #[.nestMembers #[8]] #[{ accessFlags := 1, nameIndex := 5, descriptorIndex := 69, attributes := #[] }, { accessFlags := 1, nameIndex := 76, descriptorIndex := 77, attributes := #[] }] 49 2 #[] #[{ accessFlags := 18, nameIndex := 36, descriptorIndex := 37, attributes := #[] }, { accessFlags := 18, nameIndex := 40, descriptorIndex := 41, attributes := #[] }])
  fields := #[{ name := "agency", type := (.object "com/example/ballast_ledger/ballastledger/CreditRating$Agency"), accessFlags := 18, slot := 0, constantValue := 0 }, { name := "notch", type := .int, accessFlags := 18, slot := 1, constantValue := 0 }]
  methods := #[k8m0, k8m1]
  instanceTypes := #[(.object "com/example/ballast_ledger/ballastledger/CreditRating$Agency"), .int]
  staticTypes := #[]
  resolved := (Array.replicate 114 none).setIfInBounds 7 (some (.field 6 4))
  statics := none }

def pool9 : Array CpInfo := pool [(8, .class_ 10), (1, u "java/lang/Iterable"), (24, .class_ 36), (0, u "java/lang/Object")] 25

/-- java/lang/Iterable -/
def k9 : Class := { plain "java/lang/Iterable" (some 0) with
  accessFlags := 1537
  interfaces := #[]
  cf := some (fileOf pool9 8 #[] #[] 1537 35 #[] #[])
  fields := #[]
  methods := #[]
  instanceTypes := #[]
  staticTypes := #[]
  resolved := Array.replicate 62 none
  statics := none }

def pool10 : Array CpInfo := pool [(10, .class_ 12), (1, u "java/util/Collection"), (47, .class_ 61), (0, u "java/lang/Object"), (0, .class_ 63), (0, u "java/lang/Iterable")] 51

/-- java/util/Collection -/
def k10 : Class := { plain "java/util/Collection" (some 0) with
  accessFlags := 1537
  interfaces := #[9]
  cf := some (fileOf pool10 10 #[] #[] 1537 60 #[62] #[])
  fields := #[]
  methods := #[]
  instanceTypes := #[]
  staticTypes := #[]
  resolved := Array.replicate 115 none
  statics := none }

def pool11 : Array CpInfo := pool [(8, .class_ 10), (1, u "java/util/SequencedCollection"), (15, .class_ 27), (0, u "java/lang/Object"), (0, .class_ 29), (0, u "java/util/Collection")] 27

/-- java/util/SequencedCollection -/
def k11 : Class := { plain "java/util/SequencedCollection" (some 0) with
  accessFlags := 1537
  interfaces := #[10]
  cf := some (fileOf pool11 8 #[] #[] 1537 26 #[28] #[])
  fields := #[]
  methods := #[]
  instanceTypes := #[]
  staticTypes := #[]
  resolved := Array.replicate 57 none
  statics := none }

def pool12 : Array CpInfo := pool [(8, .class_ 10), (1, u "java/util/List"), (68, u "size"), (0, u "()I"), (22, .class_ 104), (0, u "java/lang/Object"), (15, .class_ 121), (0, u "java/util/SequencedCollection")] 129

def k12m0 : Method := { name := "size", desc := "()I", sig := { parameters := [], returnType := some .int }, accessFlags := 1025, code := none }
/-- java/util/List -/
def k12 : Class := { plain "java/util/List" (some 0) with
  accessFlags := 1537
  interfaces := #[11]
  cf := some (fileOf pool12 8 #[] #[{ accessFlags := 1025, nameIndex := 79, descriptorIndex := 80, attributes := #[] }] 1537 103 #[120] #[])
  fields := #[]
  methods := #[k12m0]
  instanceTypes := #[]
  staticTypes := #[]
  resolved := Array.replicate 251 none
  statics := none }

def pool13 : Array CpInfo := pool [(2, .class_ 4), (1, u "java/lang/Object"), (0, u "<init>"), (0, u "()V"), (1, .class_ 10), (1, u "java/util/AbstractCollection"), (66, .class_ 78), (0, u "java/util/Collection")] 81

def k13m0 : Method := { name := "<init>", desc := "()V", sig := { parameters := [], returnType := none }, accessFlags := 4, code := none }
/-- java/util/AbstractCollection -/
def k13 : Class := { plain "java/util/AbstractCollection" (some 0) with
  accessFlags := 1057
  interfaces := #[10]
  cf := some (fileOf pool13 8 #[] #[{ accessFlags := 4, nameIndex := 5, descriptorIndex := 6, attributes := #[] }] 1057 2 #[77] #[])
  fields := #[]
  methods := #[k13m0]
  instanceTypes := #[]
  staticTypes := #[]
  resolved := Array.replicate 160 none
  statics := none }

def pool14 : Array CpInfo := pool [(2, .class_ 4), (1, u "java/util/AbstractCollection"), (0, u "<init>"), (0, u "()V"), (1, .class_ 10), (1, u "java/util/ImmutableCollections"), (2, .class_ 14), (0, u "java/util/ImmutableCollections$AbstractImmutableCollection")] 41

def k14m0 : Method := { name := "<init>", desc := "()V", sig := { parameters := [], returnType := none }, accessFlags := 0, code := none }
/-- java/util/ImmutableCollections$AbstractImmutableCollection -/
def k14 : Class := { plain "java/util/ImmutableCollections$AbstractImmutableCollection" (some 13) with
  accessFlags := 1056
  interfaces := #[]
  cf := some (fileOf pool14 13 #[.nestHost 8] #[{ accessFlags := 0, nameIndex := 5, descriptorIndex := 6, attributes := #[] }] 1056 2 #[] #[])
  fields := #[]
  methods := #[k14m0]
  instanceTypes := #[]
  staticTypes := #[]
  resolved := Array.replicate 56 none
  statics := none }

def pool15 : Array CpInfo := pool [(1, .class_ 2), (0, u "java/util/RandomAccess"), (0, .class_ 4), (0, u "java/lang/Object")] 2

/-- java/util/RandomAccess -/
def k15 : Class := { plain "java/util/RandomAccess" (some 0) with
  accessFlags := 1537
  interfaces := #[]
  cf := some (fileOf pool15 1 #[] #[] 1537 3 #[] #[])
  fields := #[]
  methods := #[]
  instanceTypes := #[]
  staticTypes := #[]
  resolved := Array.replicate 7 none
  statics := none }

def pool16 : Array CpInfo := pool [(2, .class_ 4), (1, u "java/util/ImmutableCollections$AbstractImmutableCollection"), (0, u "<init>"), (0, u "()V"), (1, .class_ 10), (1, u "java/util/ImmutableCollections"), (3, .class_ 16), (1, u "java/util/ImmutableCollections$AbstractImmutableList"), (60, .class_ 78), (0, u "java/util/List"), (45, .class_ 125), (0, u "java/util/RandomAccess")] 70

def k16m0 : Method := { name := "<init>", desc := "()V", sig := { parameters := [], returnType := none }, accessFlags := 0, code := none }
/-- java/util/ImmutableCollections$AbstractImmutableList -/
def k16 : Class := { plain "java/util/ImmutableCollections$AbstractImmutableList" (some 14) with
  accessFlags := 1056
  interfaces := #[12, 15]
  cf := some (fileOf pool16 14 #[.nestHost 8] #[{ accessFlags := 0, nameIndex := 5, descriptorIndex := 6, attributes := #[] }] 1056 2 #[77, 124] #[])
  fields := #[]
  methods := #[k16m0]
  instanceTypes := #[]
  staticTypes := #[]
  resolved := Array.replicate 196 none
  statics := none }

def pool17 : Array CpInfo := pool [(2, .class_ 4), (1, u "java/util/ImmutableCollections$AbstractImmutableList"), (2, .fieldref 8 9), (0, .class_ 10), (0, .nameAndType 11 12), (0, u "java/util/ImmutableCollections$ListN"), (0, u "elements"), (0, u "[Ljava/lang/Object;"), (2, u "allowNulls"), (0, u "Z"), (42, .class_ 60), (0, u "java/io/Serializable"), (16, u "size"), (0, u "()I"), (35, .class_ 115), (0, u "java/util/ImmutableCollections")] 3

def k17c0 : Code := { maxStack := 1, maxLocals := 1, code := jdk_45_method_3_code, exceptionTable := #[], attributes := #[] }
def k17m0 : Method := { name := "size", desc := "()I", sig := { parameters := [], returnType := some .int }, accessFlags := 1, code := some k17c0 }
/-- java/util/ImmutableCollections$ListN -/
def k17 : Class := { plain "java/util/ImmutableCollections$ListN" (some 16) with
  accessFlags := 48
  interfaces := #[4]
  cf := some (fileOf pool17 8 #[.nestHost 114] #[{ accessFlags := 1, nameIndex := 77, descriptorIndex := 78, attributes := #[] }] 48 2 #[59] #[{ accessFlags := 18, nameIndex := 11, descriptorIndex := 12, attributes := #[] }, { accessFlags := 18, nameIndex := 15, descriptorIndex := 16, attributes := #[] }])
  fields := #[{ name := "elements", type := (.array (.object "java/lang/Object")), accessFlags := 18, slot := 0, constantValue := 0 }, { name := "allowNulls", type := .boolean, accessFlags := 18, slot := 1, constantValue := 0 }]
  methods := #[k17m0]
  instanceTypes := #[(.array (.object "java/lang/Object")), .boolean]
  staticTypes := #[]
  resolved := Array.replicate 119 none
  statics := none }

def pool18 : Array CpInfo := pool [(1, u "java/lang/Cloneable"), (0, .class_ 1), (0, u "java/lang/Object"), (0, .class_ 3)] 3

/-- java/lang/Cloneable -/
def k18 : Class := { plain "java/lang/Cloneable" (some 0) with
  accessFlags := 1537
  interfaces := #[]
  cf := some (fileOf pool18 2 #[] #[] 1537 4 #[] #[])
  fields := #[]
  methods := #[]
  instanceTypes := #[]
  staticTypes := #[]
  resolved := Array.replicate 8 none
  statics := none }

/-- the primitive byte -/
def k19 : Class := { plain "byte" none with kind := .primitive 'B', accessFlags := 0x411 }
/-- [B -/
def k20 : Class := { plain "[B" (some 0) with kind := .array 19 .byte, interfaces := #[18, 4], accessFlags := 1041 }

/-- the primitive int -/
def k21 : Class := { plain "int" none with kind := .primitive 'I', accessFlags := 0x411 }
/-- [I -/
def k22 : Class := { plain "[I" (some 0) with kind := .array 21 .int, interfaces := #[18, 4], accessFlags := 1041 }

/-- [Ljava/lang/Object; -/
def k23 : Class := { plain "[Ljava/lang/Object;" (some 0) with kind := .array 0 (.object "java/lang/Object"), interfaces := #[18, 4], accessFlags := 1041 }

def heap : Heap := #[{ cls := 6, slots := #[.ref 5, .ref 6, .null], vm := .statics 6 },
  { cls := 23, slots := #[.null, .null, .null, .null, .null, .null, .null, .null, .null, .null, .null, .null, .null, .null, .null, .null, .null, .null, .null, .null, .null, .null], vm := .none },
  { cls := 23, slots := #[.null, .null, .null, .null, .null, .null, .null, .null, .null, .null, .null, .null, .null, .null, .null, .null, .null, .null, .null, .null, .null], vm := .none },
  { cls := 17, slots := #[.ref 1, .int 0], vm := .none },
  { cls := 17, slots := #[.ref 2, .int 0], vm := .none },
  { cls := 6, slots := #[.null, .int 0, .int 0, .null, .null, .ref 3], vm := .none },
  { cls := 6, slots := #[.null, .int 1, .int 0, .null, .null, .ref 4], vm := .none }]
def classes : Array Class := #[k0, k1, k2, k3, k4, k5, k6, k7, k8, k9, k10, k11, k12, k13, k14, k15, k16, k17, k18, k19, k20, k21, k22, k23]
def interned : List (Array UInt16 × Addr) := []
def slotsUsed : Nat := 62
def theMethod : MethodId := ⟨1, 1⟩
def args0 : Array Value := #[.int 5, .int 6, .int 7, .int 8]
def aboutOver (below : List Frame) : State where
  vm := { classes := classes, interned := interned.toArray }
  heap := heap
  slotsUsed := slotsUsed
  threads := #[{ frames := .invoking theMethod args0 :: below }]
def below0 : List Frame := [.native { method := ⟨0, 0⟩, args := #[] }]
def about1 : State := aboutOver below0
def p0 : Program := .bare "" "" ""
def e0 : Env := launch0.env 0 0 0
theorem w_frames : about1.frames = Frame.invoking theMethod args0 :: below0 := rfl
set_option maxRecDepth 65536 in
theorem w_args : argsFit about1.vm theMethod args0 = true := by decide +kernel
set_option maxRecDepth 65536 in
theorem w_heap : heapFits about1 = true := by decide +kernel
set_option maxRecDepth 65536 in
theorem w_runnable : about1.curStatus? = some .runnable := by decide +kernel
set_option maxRecDepth 65536 in
theorem w_alone : about1.alone = true := by decide +kernel
set_option maxRecDepth 65536 in
theorem w_named : about1.methodNamed? x = some theMethod := by decide +kernel
set_option maxRecDepth 65536 in
theorem w_hears : about1.hears theMethod below0 = true := by decide +kernel
set_option maxRecDepth 65536 in
theorem w_ripe : about1.ripe theMethod args0 below0 = true := by decide +kernel
theorem w_running : about1.status = .running := rfl
set_option maxRecDepth 65536 in
theorem w_room : about1.hasRoom e0.platform room_1 = true :=
  launch0.hasRoom_least _ room_1 (by decide +kernel) (by decide +kernel) (by decide +kernel) (by decide +kernel) (by decide +kernel) (by decide +kernel)
theorem allAtoms_all (ts : List Jvm.Cond) (a : Array Jvm.Value) (st : Jvm.State) : (allAtoms ts).before a st = ts.all (fun c => c.before a st) := by
  induction ts with
  | nil => rfl
  | cons c t ih =>
    show (Jvm.Cond.and c (allAtoms t)).before a st = _
    rw [Jvm.Cond.before_and, ih, List.all_cons]
def words1 : List Jvm.Cond := Jvm.Cond.code x code maxLocals ret :: tables_1
/-- a 'code' word, met by the world's own term for the bytes: nothing is compared byte by byte -/
theorem code_word {y : MethodName} {bytes : ByteArray} {mx : Nat} {rt : Option FieldType} {a : Array Value} {s : State} {m : MethodId} {meth : Method} {c : Code} (h1 : s.methodNamed? y = some m) (h2 : s.vm.method? m = some meth) (h3 : meth.code = some c) (h4 : c.code = bytes)
    (h5 : (c.maxLocals == mx && c.exceptionTable.isEmpty && decide (c.maxStack ≤ mostOperands) && decide (meth.sig.returnType = rt) && !meth.locks && decide (parseMethodDescriptor y.desc = some meth.sig)) = true) : (Jvm.Cond.code y bytes mx rt).before a s = true := by
  simp only [Bool.and_eq_true, beq_iff_eq, Bool.not_eq_true', decide_eq_true_eq] at h5
  obtain ⟨⟨⟨⟨⟨g1, g2⟩, g3⟩, g4⟩, g5⟩, g6⟩ := h5
  simp [Cond.before, Cond.holds, Cond.value, h1, h2, h3, h4, g1, g2, g3, g4, g5, g6]
def isCode : Jvm.Cond → Bool
  | .code _ _ _ _ => true
  | _ => false
theorem all_split {L : List Jvm.Cond} {P : Jvm.Cond → Bool} (h1 : L.all (fun c => isCode c || P c) = true) (h2 : ∀ c ∈ L.filter isCode, P c = true) : L.all P = true := by
  refine List.all_eq_true.mpr fun c hc => ?_
  have h := List.all_eq_true.mp h1 c hc
  rcases Bool.eq_false_or_eq_true (isCode c) with hi | hi
  · exact h2 c (List.mem_filter.mpr ⟨hc, hi⟩)
  · simpa [hi] using h
set_option maxRecDepth 65536 in
theorem w_c0 : (Jvm.Cond.code x code maxLocals ret).before args0 about1 = true := code_word (m := ⟨1, 1⟩) (meth := k1m1) (c := k1c1) (by decide +kernel) rfl rfl rfl (by decide +kernel)
set_option maxRecDepth 65536 in
theorem w_c1 : (Jvm.Cond.code ({ cls := "com/example/ballast_ledger/ballastledger/CreditRating", name := "<init>", desc := "(Lcom/example/ballast_ledger/ballastledger/CreditRating$Agency;I)V" } : Jvm.MethodName) prog_4_method_1_code (3 : Nat) (Option.none : Option Jvm.ClassFile.FieldType)).before args0 about1 = true := code_word (m := ⟨8, 0⟩) (meth := k8m0) (c := k8c0) (by decide +kernel) rfl rfl rfl (by decide +kernel)
set_option maxRecDepth 65536 in
theorem w_c2 : (Jvm.Cond.code ({ cls := "java/lang/Record", name := "<init>", desc := "()V" } : Jvm.MethodName) jdk_30_method_1_code (1 : Nat) (Option.none : Option Jvm.ClassFile.FieldType)).before args0 about1 = true := code_word (m := ⟨7, 0⟩) (meth := k7m0) (c := k7c0) (by decide +kernel) rfl rfl rfl (by decide +kernel)
set_option maxRecDepth 65536 in
theorem w_c3 : (Jvm.Cond.code ({ cls := "java/lang/Object", name := "<init>", desc := "()V" } : Jvm.MethodName) object_method_1_code (1 : Nat) (Option.none : Option Jvm.ClassFile.FieldType)).before args0 about1 = true := code_word (m := ⟨0, 0⟩) (meth := k0m0) (c := k0c0) (by decide +kernel) rfl rfl rfl (by decide +kernel)
set_option maxRecDepth 65536 in
theorem w_c4 : (Jvm.Cond.code ({ cls := "java/util/ImmutableCollections$ListN", name := "size", desc := "()I" } : Jvm.MethodName) jdk_45_method_3_code (1 : Nat) (Option.some Jvm.ClassFile.FieldType.int)).before args0 about1 = true := code_word (m := ⟨17, 0⟩) (meth := k17m0) (c := k17c0) (by decide +kernel) rfl rfl rfl (by decide +kernel)
set_option maxRecDepth 65536 in
theorem w_c5 : (Jvm.Cond.code ({ cls := "com/example/ballast_ledger/ballastledger/CreditRating", name := "isBelow", desc := "(Lcom/example/ballast_ledger/ballastledger/CreditRating;)Z" } : Jvm.MethodName) prog_4_method_3_code (2 : Nat) (Option.some Jvm.ClassFile.FieldType.boolean)).before args0 about1 = true := code_word (m := ⟨8, 1⟩) (meth := k8m1) (c := k8c1) (by decide +kernel) rfl rfl rfl (by decide +kernel)
def codes1 : List Jvm.Cond := [Jvm.Cond.code x code maxLocals ret, Jvm.Cond.code ({ cls := "com/example/ballast_ledger/ballastledger/CreditRating", name := "<init>", desc := "(Lcom/example/ballast_ledger/ballastledger/CreditRating$Agency;I)V" } : Jvm.MethodName) prog_4_method_1_code (3 : Nat) (Option.none : Option Jvm.ClassFile.FieldType), Jvm.Cond.code ({ cls := "java/lang/Record", name := "<init>", desc := "()V" } : Jvm.MethodName) jdk_30_method_1_code (1 : Nat) (Option.none : Option Jvm.ClassFile.FieldType), Jvm.Cond.code ({ cls := "java/lang/Object", name := "<init>", desc := "()V" } : Jvm.MethodName) object_method_1_code (1 : Nat) (Option.none : Option Jvm.ClassFile.FieldType), Jvm.Cond.code ({ cls := "java/util/ImmutableCollections$ListN", name := "size", desc := "()I" } : Jvm.MethodName) jdk_45_method_3_code (1 : Nat) (Option.some Jvm.ClassFile.FieldType.int), Jvm.Cond.code ({ cls := "com/example/ballast_ledger/ballastledger/CreditRating", name := "isBelow", desc := "(Lcom/example/ballast_ledger/ballastledger/CreditRating;)Z" } : Jvm.MethodName) prog_4_method_3_code (2 : Nat) (Option.some Jvm.ClassFile.FieldType.boolean)]
set_option maxRecDepth 65536 in
theorem codes_eq : words1.filter isCode = codes1 := rfl
theorem w_codes : ∀ c ∈ words1.filter isCode, c.before args0 about1 = true := by
  rw [codes_eq]
  intro c hc
  simp only [codes1, List.mem_cons, List.not_mem_nil, or_false] at hc
  rcases hc with rfl | rfl | rfl | rfl | rfl | rfl
  · exact w_c0
  · exact w_c1
  · exact w_c2
  · exact w_c3
  · exact w_c4
  · exact w_c5
set_option maxRecDepth 65536 in
theorem w_t1 : (words1.take 24).all (fun c => isCode c || c.before args0 about1) = true := by decide +kernel
set_option maxRecDepth 65536 in
theorem w_t2 : (words1.drop 24).all (fun c => isCode c || c.before args0 about1) = true := by decide +kernel
theorem w_tables : (allAtoms (Jvm.Cond.code x code maxLocals ret :: tables_1)).before args0 about1 = true := by
  rw [allAtoms_all]
  show words1.all (fun c => c.before args0 about1) = true
  refine all_split ?_ w_codes
  rw [← List.take_append_drop 24 words1, List.all_append, w_t1, w_t2]
  rfl
set_option maxRecDepth 65536 in
theorem w_case : (Jvm.Cond.and given_1 narrow_1).before args0 about1 = true := by decide +kernel
theorem w_applies : (headSpec (Jvm.Cond.code x code maxLocals ret :: tables_1) room_1).applies x e0.platform about1 = true :=
  (Spec.applies_iff w_frames).mpr ⟨w_running, w_runnable, w_alone, w_named, w_hears, w_ripe, w_room, w_tables⟩
theorem atStart : AtStart classFile x code maxLocals ret World_1 tables_1 room_1 Calls_1 rest_1 Pre_1 launch0 p0 e0 about1 theMethod args0 below0 :=
  ⟨lists_1, trivial, launch0.admits_env _ _ _, launch0.least_env, fairChoices_fair.cas, fairChoices_fair.clock, w_frames, w_args, w_heap, w_applies, trivial, trivial, w_case⟩
end start1
theorem witness_1 : WitnessClaimed_1 := ⟨start1.p0, start1.e0, start1.about1, start1.theMethod, start1.args0, start1.below0, start1.atStart⟩
end Jvm.Pilot.@@N@@
