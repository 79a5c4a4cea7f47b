import JvmDerived
import JvmDerived.Pilot.@@N@@Statement
import JvmDerived.Pilot.@@N@@Code
set_option linter.unusedVariables false
set_option linter.unusedSimpArgs false
namespace Jvm.Pilot.@@N@@
open Jvm Jvm.ClassFile Sem Op Lib Jvm.Free Jvm.Stand Jvm.LawKit Jvm.RoadKit Bundle Jvm.Pilot.@@N@@.Jvm.D
theorem own_dummy : True := trivial
section Own
variable {p : Program} {l : Launch} {e : Env} {R : Room} {s : State} {m : MethodId} {args : Array Value} {below : List Frame} {meth : Method} {c : Code} {T : State} {locs : List Loc} {cells slots : Nat}
def own_Fin (p : Program) (e : Env) (below : List Frame) (P : Outcome → State → Prop) (U : State) : Prop := ∃ s₂ o, Steps p.tables e below U s₂ ∧ s₂.status = .running ∧ Ended s₂ below o ∧ P o s₂
def own_P (Q : Option Value → Heap → List Loc → Prop) (s : State) (C S : Nat) : Outcome → State → Prop := fun o t => ∃ v L, o = .returned v ∧ Q v t.heap L ∧ FrameEnd s o t L C S
theorem own_go {P : Outcome → State → Prop} {U U' : State} (k : own_Fin p e below P U') (h : ∀ t, Steps p.tables e below U' t → Steps p.tables e below U t) : own_Fin p e below P U := by
  obtain ⟨t, o, h1, r⟩ := k; exact ⟨t, o, h t h1, r⟩
theorem own_cut {P : Outcome → State → Prop} {U : State} (A : Prop) (k : A) (h : A → own_Fin p e below P U) : own_Fin p e below P U := h k
theorem own_retN (X : Stand p l e R s m args below meth c T locs cells slots) (hx : p.tables.exec = Jvm.exec) {pc : Nat} {Ls : Array Slot} {z : Int32} {t : FieldType} {rest : List Value} (hret : meth.sig.returnType = some t) (ht : t = .boolean ∨ t = .byte ∨ t = .char ∨ t = .short)
    (hd : decode c.code pc = .ok (.ireturn, 1)) (hlk : meth.locks = false) {Q : Option Value → Heap → List Loc → Prop} {C S : Nat} (hQ : Q (some (.int (nar t z))) T.heap locs) (hC : cells ≤ C) (hS : slots ≤ S) : own_Fin p e below (own_P Q s C S) (T.setTop (mkF m pc Ls (.int z :: rest))) := by
  obtain ⟨fs, hr, hrun, hended, hW, hsame⟩ := X.leave (v := some (.int (nar t z))) (fun h => by rw [hret] at h; cases h) hlk
  exact ⟨_, _, retN X hx hret ht hd hr, hrun, hended, _, _, rfl, hQ, ⟨_, rfl⟩, hW, hsame.mono hC hS⟩
theorem own_retO (X : Stand p l e R s m args below meth c T locs cells slots) (hx : p.tables.exec = Jvm.exec) {pc : Nat} {Ls : Array Slot} {w : Value} {t : FieldType} {i : Instr} {rest : List Value} (hret : meth.sig.returnType = some t) (hn : narrow t w = w)
    (hi : (i = .ireturn ∧ (t = .int ∨ t = .boolean ∨ t = .byte ∨ t = .char ∨ t = .short) ∧ ∃ z, w = .int z) ∨ (i = .lreturn ∧ t = .long ∧ ∃ z, w = .long z) ∨ (i = .dreturn ∧ t = .double ∧ ∃ z, w = .double z) ∨ (i = .freturn ∧ t = .float ∧ ∃ z, w = .float z) ∨ (i = .areturn ∧ t.isReference = true ∧ w.isRef = true))
    (hd : decode c.code pc = .ok (i, 1)) (hlk : meth.locks = false) {Q : Option Value → Heap → List Loc → Prop} {C S : Nat} (hQ : Q (some w) T.heap locs) (hC : cells ≤ C) (hS : slots ≤ S) : own_Fin p e below (own_P Q s C S) (T.setTop (mkF m pc Ls (w :: rest))) := by
  obtain ⟨fs, hr, hrun, hended, hW, hsame⟩ := X.leave (v := some w) (fun h => by rw [hret] at h; cases h) hlk
  exact ⟨_, _, retOut X hx hret hn hi hd hr, hrun, hended, _, _, rfl, hQ, ⟨_, rfl⟩, hW, hsame.mono hC hS⟩
theorem own_retV (X : Stand p l e R s m args below meth c T locs cells slots) (hx : p.tables.exec = Jvm.exec) {pc : Nat} {Ls : Array Slot} (hret : meth.sig.returnType = none)
    (hd : decode c.code pc = .ok (.return_, 1)) (hlk : meth.locks = false) {Q : Option Value → Heap → List Loc → Prop} {C S : Nat} (hQ : Q none T.heap locs) (hC : cells ≤ C) (hS : slots ≤ S) : own_Fin p e below (own_P Q s C S) (T.setTop (mkF m pc Ls [])) := by
  obtain ⟨fs, hr, hrun, hended, hW, hsame⟩ := X.leave (v := none) (fun _ => rfl) hlk
  exact ⟨_, _, X.returnOut hx hret hd hr, hrun, hended, _, _, rfl, hQ, ⟨_, rfl⟩, hW, hsame.mono hC hS⟩
theorem own_getR {Z : State} {a0 : Array Value} {h : Heap} (X : Stand p l e R s m args below meth c T locs cells slots) (hx : p.tables.exec = Jvm.exec) (hZ : Z.Warmed39 s.vm) {own O n d : String} {index : Nat} (hown : s.vm.findClass own = some m.cls) (w : (Jvm.Cond.fieldRef own index O n d).before a0 Z = true)
    (eT : T.heap = h) {a : Addr} {v : Value} (F : Fld Z h a O n d v) {g : JFrame} (hg : g.method = m) {rest : List Value} (hs : g.stack = .ref a :: rest) (hd : decode c.code g.pc = .ok (.getfield index, 3)) :
    ∀ target, Steps p.tables e below (T.setTop { g with pc := g.pc + 3, stack := v :: rest }) target → Steps p.tables e below (T.setTop g) target := by
  obtain ⟨cell, cf, k, i, f, h1, h2, h3, h4, -, -, h7⟩ := F
  have hU : Z.Warmed39 T.vm := wtrans hZ X.warmed
  have w0 : (Jvm.Cond.fieldRef own index O n d).before a0 (Z.setVm T.vm) = true := Cond.fieldRef_warmed39 hU w
  have w' : (Jvm.Cond.fieldRef own index O n d).before args T = true := w0
  have hc : T.vm.findClass own = some m.cls := by rw [X.warmed.alike.findClass]; exact hown
  obtain ⟨c', k', i', f', q1, q2⟩ := Cond.fieldRef_spec hc w'
  obtain ⟨k2, hi, -⟩ := State.fieldFound?_setVm (s := Z) hU.alike h2
  have hi' : T.fieldFound? O n d = some (cf, k2, i, f) := hi
  cases q1.symm.trans hi'
  intro target ht
  exact (X.getfieldR hx hg q2 h3 hs (by rw [eT]; exact h1) h4 h7 hd (Steps.refl _)).trans ht
end Own
theorem own_feq {args : Array Value} {s : State} {t : Term} {x : Addr} {C n d : String} {k : Int32} (ht : t.eval args s none [] s = some (.ref x)) (h : (Jvm.Cond.eq (Term.field t C n d) (Term.int k)).value args s none s [] = some true) : Fld s s.heap x C n d (.int k) := by
  have e1 := Cond.eq_int (beq_iff_eq.mpr h) (Term.int_eval k)
  rw [fld_at ht] at e1
  exact Fld.start e1
theorem own_len {args : Array Value} {s : State} {t : Term} {x : Addr} {cl : Cell} {ty : FieldType} {k : Int32} (ht : t.eval args s none [] s = some (.ref x)) (A : Arr s s.heap x cl ty) (h : (Jvm.Cond.eq (Term.length t) (Term.int k)).value args s none s [] = some true) : cl.slots.size < 2 ^ 31 ∧ cl.slots.size.toInt32 = k := by
  have e1 := Cond.eq_int (beq_iff_eq.mpr h) (Term.int_eval k)
  have ha := A.fin (Vm.Alike.refl _)
  have hl : cl.slots.size < 2 ^ 31 := by
    apply Decidable.byContradiction
    intro q
    simp [Term.eval, ht, ha, q] at e1
  rw [len_f ht ha hl] at e1
  exact ⟨hl, by cases e1; rfl⟩
theorem own_el {args : Array Value} {s : State} {t u : Term} {x y : Addr} {cl : Cell} {ty : FieldType} {k : Int32} (ht : t.eval args s none [] s = some (.ref x)) (A : Arr s s.heap x cl ty) (hu : u.eval args s none [] s = some (.ref y)) (h : (Jvm.Cond.eq (Term.elem t (Term.int k)) u).value args s none s [] = some true) : cl.slots[k.toNatClampNeg]? = some (.ref y) := by
  obtain ⟨v, w, e1, e2, k1, k2⟩ := cmp_v (Or.inl h)
  cases hu.symm.trans e2
  have q := (elem_in e1 ht rfl A.1).2
  have r := k2.2
  have := gotT (eq_R e1 e2 r rfl) h
  rw [this] at q
  exact q
theorem own_narR {v : Value} {C : String} (h : v.isRef = true) : narrow (.object C) v = v := by rcases ref_cases h with rfl | ⟨a, rfl⟩ <;> rfl
theorem own_fitR {v : Value} {C : String} (h : v.isRef = true) : fits (.object C) v = true := by rcases ref_cases h with rfl | ⟨a, rfl⟩ <;> rfl
theorem own_catR {v : Value} (h : v.isRef = true) : v.category = 1 := by rcases ref_cases h with rfl | ⟨a, rfl⟩ <;> rfl
theorem own_extK {h0 h : Heap} (K : Keep h0 h []) : Ext h0 h := ⟨K.1, fun a c q => K.2.1 a c q nin0⟩
theorem own_c255 (x : Int32) : ¬ (255 : Int32) < ((x &&& (255 : Int32)).toUInt32.toUInt16.toUInt32.toInt32) := by
  rw [i2c_mask]
  have := c_and x 255 (by decide)
  rw [Int32.lt_iff_toInt_lt]
  have e : (255 : Int32).toInt = 255 := rfl
  omega
theorem own_siz {cl : Cell} {k : Int32} (h : cl.slots.size < 2 ^ 31 ∧ cl.slots.size.toInt32 = k) : cl.slots.size = k.toNatClampNeg := by
  rw [← h.2]; simp only [Int32.toNatClampNeg, len_toInt h.1]; rfl

def QN (h0 : Heap) (n0 : Nat) (v : Option Value) (h : Heap) (L : List Loc) : Prop := v = none ∧ Fr n0 L ∧ h = h0
def QC22 (Z : State) (a1 : Addr) (p2 : Int32)  (h0 : Heap) (n0 : Nat) (v : Option Value) (h : Heap) (L : List Loc) : Prop := v = none ∧ Fr n0 L ∧ Keep h0 h [a1] ∧ Fld Z h a1 "java/lang/Integer" "value" "I" (.int p2)
def QIV (Z : State) (p1 : Int32) (h0 : Heap) (n0 : Nat) (v : Option Value) (h : Heap) (L : List Loc) : Prop := ∃ x : Addr, v = some (.ref x) ∧ Fr n0 L ∧ Ext h0 h ∧ Exa Z h x "java/lang/Integer" ∧ Fld Z h x "java/lang/Integer" "value" "I" (.int p1)
def own_Box (Z : State) (cl : Cell) : Prop := ∀ j : Int32, ¬ (j < 0 ∨ cl.slots.size ≤ j.toNatClampNeg) → ∃ x : Addr, cl.slots[j.toNatClampNeg]? = some (.ref x) ∧ Exa Z Z.heap x "java/lang/Integer" ∧ Fld Z Z.heap x "java/lang/Integer" "value" "I" (.int (j - 128))
def QC3 (Z : State) (a1 : Addr)  (h0 : Heap) (n0 : Nat) (v : Option Value) (h : Heap) (L : List Loc) : Prop := v = none ∧ Fr n0 L ∧ Keep h0 h [a1] ∧ Fld Z h a1 "java/util/AbstractList" "modCount" "I" (.int (0 : Int32)) ∧ Fld Z h a1 "java/util/ArrayList" "elementData" "[Ljava/lang/Object;" .null
def QC2 (Z : State) (a1 : Addr) (de : Addr) (h0 : Heap) (n0 : Nat) (v : Option Value) (h : Heap) (L : List Loc) : Prop := v = none ∧ Fr n0 L ∧ Keep h0 h [a1] ∧ Fld Z h a1 "java/util/AbstractList" "modCount" "I" (.int (0 : Int32)) ∧ Fld Z h a1 "java/util/ArrayList" "elementData" "[Ljava/lang/Object;" (.ref de)
def QI (z : Int32) (h0 : Heap) (n0 : Nat) (v : Option Value) (h : Heap) (L : List Loc) : Prop := v = some (.int z) ∧ Fr n0 L ∧ h = h0
def QB (Z : State) (p1 : Int32) (h0 : Heap) (n0 : Nat) (v : Option Value) (h : Heap) (L : List Loc) : Prop := ∃ (b : Addr) (k : ClassId), v = some (.ref b) ∧ Fr n0 L ∧ Ext h0 h ∧ h0.size ≤ b ∧ Arv Z h b k .byte (1 : Int32) [(.int (nar .byte (p1.toInt8.toInt32)))] (.int (0 : Int32))
def QC9 (Z : State) (a1 : Addr) (a2 : Addr) (p3 : Int32)  (h0 : Heap) (n0 : Nat) (v : Option Value) (h : Heap) (L : List Loc) : Prop := v = none ∧ Fr n0 L ∧ Keep h0 h [a1] ∧ Fld Z h a1 "java/lang/String" "value" "[B" (.ref a2) ∧ Fld Z h a1 "java/lang/String" "coder" "B" (.int (nar .byte p3))
def QVC (Z : State) (p1 : Int32) (h0 : Heap) (n0 : Nat) (v : Option Value) (h : Heap) (L : List Loc) : Prop := ∃ (x t : Addr) (k : ClassId), v = some (.ref x) ∧ Fr n0 L ∧ Ext h0 h ∧ h0.size ≤ x ∧ h0.size ≤ t ∧ Exa Z h x "java/lang/String" ∧ Fld Z h x "java/lang/String" "coder" "B" (.int 0) ∧ Fld Z h x "java/lang/String" "value" "[B" (.ref t) ∧ Arv Z h t k .byte (1 : Int32) [(.int (nar .byte (p1.toInt8.toInt32)))] (.int (0 : Int32))
def QC14 (Z : State) (a1 : Addr) (a2 : Addr)  (h0 : Heap) (n0 : Nat) (v : Option Value) (h : Heap) (L : List Loc) : Prop := v = none ∧ Fr n0 L ∧ Keep h0 h [a1] ∧ Fld Z h a1 "java/util/Collections$UnmodifiableCollection" "c" "Ljava/util/Collection;" (.ref a2) ∧ Fld Z h a1 "java/util/Collections$UnmodifiableList" "list" "Ljava/util/List;" .null
def QC13 (Z : State) (a1 : Addr) (a2 : Addr)  (h0 : Heap) (n0 : Nat) (v : Option Value) (h : Heap) (L : List Loc) : Prop := v = none ∧ Fr n0 L ∧ Keep h0 h [a1] ∧ Fld Z h a1 "java/util/Collections$UnmodifiableCollection" "c" "Ljava/util/Collection;" (.ref a2) ∧ Fld Z h a1 "java/util/Collections$UnmodifiableList" "list" "Ljava/util/List;" (.ref a2)
def QC12 (Z : State) (a1 : Addr) (a2 : Addr)  (h0 : Heap) (n0 : Nat) (v : Option Value) (h : Heap) (L : List Loc) : Prop := v = none ∧ Fr n0 L ∧ Keep h0 h [a1] ∧ Fld Z h a1 "java/util/Collections$UnmodifiableCollection" "c" "Ljava/util/Collection;" (.ref a2) ∧ Fld Z h a1 "java/util/Collections$UnmodifiableList" "list" "Ljava/util/List;" (.ref a2)
def QUL (h0 : Heap) (n0 : Nat) (v : Option Value) (h : Heap) (L : List Loc) : Prop := ∃ x : Addr, v = some (.ref x) ∧ Fr n0 L ∧ Ext h0 h
def own_Mir (Z : State) (C : String) (m : Addr) : Prop := ∃ (c : ClassId) (k : Class), Z.vm.findClass C = some c ∧ Z.vm.classes[c]? = some k ∧ k.mirror = some m
def QC10 (Z : State) (a1 : Addr) (v2 : Value) (p3 : Int32) (p4 : Int32) (a5 : Addr) (a6 : Addr) (a7 : Addr) (p8 : Int32) (mA mL mR : Addr) (h0 : Heap) (n0 : Nat) (v : Option Value) (h : Heap) (L : List Loc) : Prop := v = none ∧ Fr n0 L ∧ Keep h0 h [a1] ∧ Fld Z h a1 "com/example/conformance_check/conformancecheck/document/RationaleRow" "number" "Ljava/lang/Integer;" v2 ∧ Fld Z h a1 "com/example/conformance_check/conformancecheck/document/RationaleRow" "index" "I" (.int p3) ∧ Fld Z h a1 "com/example/conformance_check/conformancecheck/document/RationaleRow" "line" "I" (.int p4) ∧ Fld Z h a1 "com/example/conformance_check/conformancecheck/document/RationaleRow" "component" "Ljava/lang/String;" (.ref a5) ∧ Fld Z h a1 "com/example/conformance_check/conformancecheck/document/RationaleRow" "givesReferences" "Z" (.int (nar .boolean p8))
def QC18 (Z : State) (a1 : Addr) (p2 : Int32)  (h0 : Heap) (n0 : Nat) (v : Option Value) (h : Heap) (L : List Loc) : Prop := v = none ∧ Fr n0 L ∧ Keep h0 h [a1] ∧ Fld Z h a1 "java/util/OptionalInt" "isPresent" "Z" (.int (1 : Int32)) ∧ Fld Z h a1 "java/util/OptionalInt" "value" "I" (.int p2)
def QOI (Z : State) (z q : Int32) (h0 : Heap) (n0 : Nat) (v : Option Value) (h : Heap) (L : List Loc) : Prop := ∃ x : Addr, v = some (.ref x) ∧ Fr n0 L ∧ Ext h0 h ∧ Exa Z h x "java/util/OptionalInt" ∧ Fld Z h x "java/util/OptionalInt" "isPresent" "Z" (.int z) ∧ Fld Z h x "java/util/OptionalInt" "value" "I" (.int q)
def QR (r : Value) (h0 : Heap) (n0 : Nat) (v : Option Value) (h : Heap) (L : List Loc) : Prop := v = some r ∧ Fr n0 L ∧ h = h0
def Q0 (n0 : Nat) (v : Option Value) (h : Heap) (L : List Loc) : Prop := v = some (.int 1) ∧ Fr n0 L
theorem own_in256 (p : Int32) (h1 : ¬ p < (-128 : Int32)) (h2 : ¬ (127 : Int32) < p) {cl : Cell} (hz : cl.slots.size = (256 : Int32).toNatClampNeg) : ¬ ((p + (128 : Int32)) < 0 ∨ cl.slots.size ≤ (p + (128 : Int32)).toNatClampNeg) := by
  have a := c_iadd p 128
  have r := rng32 (p + 128)
  rw [Int32.lt_iff_toInt_lt] at h1 h2
  have e1 : (-128 : Int32).toInt = -128 := rfl
  have e2 : (127 : Int32).toInt = 127 := rfl
  have e3 : (128 : Int32).toInt = 128 := rfl
  refine inb_of hz ⟨?_, ?_⟩
  · rw [Int32.lt_iff_toInt_lt]
    have e4 : (0 : Int32).toInt = 0 := rfl
    omega
  · rw [Int32.lt_iff_toInt_lt]
    have e4 : (256 : Int32).toInt = 256 := rfl
    omega
theorem own_back128 (p : Int32) : (p + (128 : Int32)) - 128 = p := by
  rw [Int32.add_sub_cancel]
abbrev own_gcN : MethodName := ⟨"java/lang/Object", "getClass", "()Ljava/lang/Class;"⟩
section Own2
variable {p : Program} {l : Launch} {e : Env} {R : Room} {s : State} {m : MethodId} {args : Array Value} {below : List Frame} {meth : Method} {c : Code} {T : State} {locs : List Loc} {cells slots : Nat} {Z : State} {a0 : Array Value} {h : Heap}
theorem own_gcI (X : Stand p l e R s m args below meth c T locs cells slots) (hx : p.tables.exec = Jvm.exec) (hZ : Z.Warmed39 s.vm) {own C : String} {index count : Nat} (hown : s.vm.findClass own = some m.cls)
    (w1 : (Jvm.Cond.methodLink own index ⟨"java/util/List", "getClass", "()Ljava/lang/Class;"⟩).before a0 Z = true) (w2 : (Jvm.Cond.declares own_gcN).before a0 Z = true) (w3 : (Jvm.Cond.interfaceMethod "java/util/List" "java/lang/Object" "getClass" "()Ljava/lang/Class;").before a0 Z = true)
    (w4 : (Jvm.Cond.selects C ⟨"java/util/List", "getClass", "()Ljava/lang/Class;"⟩ own_gcN).before a0 Z = true) (w5 : (Jvm.Cond.instanceMethod own_gcN).before a0 Z = true) (w6 : (Jvm.Cond.publicMethod own_gcN).before a0 Z = true) (w7 : (Jvm.Cond.unhidden C "getClass" "()Ljava/lang/Class;").before a0 Z = true)
    (w8 : (Jvm.Cond.castable C "java/util/List").before a0 Z = true) (w9 : (Jvm.Cond.native own_gcN).before a0 Z = true) (eT : T.heap = h) {a : Addr} (E : Exa Z h a C) {mr : Addr} (M : own_Mir Z C mr)
    {g : JFrame} (hg : g.method = m) (hsize : g.locals.size = c.maxLocals) {rest : List Value} (hs : g.stack = .ref a :: rest) (hd : decode c.code g.pc = .ok (.invokeinterface index count, 5)) (hf : 1 ≤ R.frames) {W : Nat} (hW : 2 * g.monitorRoom + (rest.map fun v => v.category).sum ≤ W) (hl : W + (nativeFrameWords "java/lang/Object" "getClass" 1 + 11) ≤ R.locals) :
    ∃ T', Stand p l e R s m args below meth c T' locs cells slots ∧ T'.heap = h ∧ ∀ target, Steps p.tables e below (T'.setTop { g with pc := g.pc + 5, stack := .ref mr :: rest }) target → Steps p.tables e below (T.setTop g) target := by
  obtain ⟨cB, kB, i1, i2, i3⟩ := isOf hZ eT E
  obtain ⟨cc, kc, m1, m2, m3⟩ := M
  have i1' := i1
  rw [hZ.alike.findClass] at i1'
  cases i1'.symm.trans m1
  obtain ⟨k', q, ek⟩ := hZ.alike.2.2 _ _ m2
  cases i2.symm.trans q
  obtain ⟨vm', X', st⟩ := X.getClassOfI hx (xi := ⟨"java/util/List", "getClass", "()Ljava/lang/Class;"⟩) hown (mvT hZ w1) (mvT hZ w2) (Jvm.Free.ULB.iface_rides hZ.alike w3) (mvT hZ w4) (mvT hZ w5) (mvT hZ w6) (mvT hZ w7) (mvT hZ w8) (mvT hZ w9) ⟨by decide, by decide⟩ (by decide) rfl rfl i1 i2 i3 (by rw [ek]; exact m3) hg hsize hs hd hf (by omega)
  exact ⟨_, X', eT, st⟩
theorem own_ldcM (X : Stand p l e R s m args below meth c T locs cells slots) (hx : p.tables.exec = Jvm.exec) (hZ : Z.Warmed39 s.vm) {own C : String} {index : Nat} (hown : s.vm.findClass own = some m.cls) (w : (Jvm.Cond.classLink own index C).before a0 Z = true) (eT : T.heap = h) {mr : Addr} (M : own_Mir Z C mr)
    {g : JFrame} (hg : g.method = m) (hd : decode c.code g.pc = .ok (.ldc index, 2)) :
    ∃ T', Stand p l e R s m args below meth c T' locs cells slots ∧ T'.heap = h ∧ ∀ target, Steps p.tables e below (T'.setTop { g with pc := g.pc + 2, stack := .ref mr :: g.stack }) target → Steps p.tables e below (T.setTop g) target := by
  obtain ⟨cc, kc, m1, m2, m3⟩ := M
  obtain ⟨k', q, ek⟩ := hZ.alike.2.2 _ _ m2
  have ev : (Term.mirror C).eval args s none [] s = some (.ref mr) := by
    simp only [Term.eval, Option.bind_eq_bind, Option.bind_eq_some_iff, Option.pure_def, Option.some.injEq]
    exact ⟨cc, by rw [hZ.alike.findClass]; exact m1, k', q, mr, by rw [ek]; exact m3, rfl⟩
  obtain ⟨vm', X', st⟩ := X.ldcMirror hx hown (mvT hZ w) ev hg hd
  exact ⟨_, X', eT, st⟩
end Own2
theorem own_box {args : Array Value} {s : State} {ca : Addr} {cl : Cell} (ht : ((Jvm.Term.static "java/lang/Integer$IntegerCache" "cache" "[Ljava/lang/Integer;")).eval args s none [] s = some (.ref ca)) (A : Arr s s.heap ca cl (.object "java/lang/Integer")) (hz : cl.slots.size < 2 ^ 31) (h : (Jvm.Cond.all (Jvm.Term.static "java/lang/Integer$IntegerCache" "cache" "[Ljava/lang/Integer;") (Jvm.Cond.and (Jvm.Cond.exactly (Jvm.Term.elem (Jvm.Term.static "java/lang/Integer$IntegerCache" "cache" "[Ljava/lang/Integer;") (Jvm.Term.index (0 : Nat))) "java/lang/Integer") (Jvm.Cond.eq (Jvm.Term.field (Jvm.Term.elem (Jvm.Term.static "java/lang/Integer$IntegerCache" "cache" "[Ljava/lang/Integer;") (Jvm.Term.index (0 : Nat))) "java/lang/Integer" "value" "I") (Jvm.Term.sub (Jvm.Term.index (0 : Nat)) (Jvm.Term.int (128 : Int32)))))).value args s none s [] = some true) : own_Box s cl := by
  intro j hj
  have hj0 : ¬ j < 0 := fun q => hj (Or.inl q)
  have hjs : j.toNatClampNeg < cl.slots.size := Nat.lt_of_not_le fun q => hj (Or.inr q)
  have ha := A.fin (Vm.Alike.refl _)
  have q := Cond.all_elim ht ha h _ hjs
  obtain ⟨q1, q2⟩ := and_e q
  obtain ⟨x, ex⟩ := exa_v q1
  have ht' : ((Jvm.Term.static "java/lang/Integer$IntegerCache" "cache" "[Ljava/lang/Integer;")).eval args s none [j.toNatClampNeg] s = some (.ref ca) := ht
  have e0 := (elem_in ex ht' (idx_at hj0) A.1).2
  refine ⟨x, e0, exa_at ex q1, ?_⟩
  obtain ⟨v, w, e1, e2, k1, k2⟩ := cmp_v (Or.inl q2)
  have e3 : (Jvm.Term.sub (Jvm.Term.index (0 : Nat)) (Jvm.Term.int (128 : Int32))).eval args s none [j.toNatClampNeg] s = some (.int (j - 128)) := Term.sub_int (idx_at hj0) (Term.int_eval (128))
  cases e3.symm.trans e2
  obtain ⟨z, rfl⟩ := k2
  have q := gotT (Cond.eq_ints e1 e3) q2
  subst q
  rw [fld_at ex] at e1
  exact Fld.start e1
theorem own_pd0 : parseMethodDescriptor "()V" = some ⟨[], none⟩ := by decide +kernel
theorem own_pd1 : parseMethodDescriptor "(I)V" = some ⟨[.int], none⟩ := by decide +kernel
theorem own_pd2 : parseMethodDescriptor "(C)Z" = some ⟨[.char], some .boolean⟩ := by decide +kernel
theorem own_pd3 : parseMethodDescriptor "(C)[B" = some ⟨[.char], some (.array .byte)⟩ := by decide +kernel
theorem own_pd4 : parseMethodDescriptor "([BB)V" = some ⟨[(.array .byte), .byte], none⟩ := by decide +kernel
theorem own_pd5 : parseMethodDescriptor "(Ljava/util/Collection;)V" = some ⟨[(.object "java/util/Collection")], none⟩ := by decide +kernel
theorem own_pd6 : parseMethodDescriptor "(Ljava/util/List;)V" = some ⟨[(.object "java/util/List")], none⟩ := by decide +kernel
theorem own_pd7 : parseMethodDescriptor "(Ljava/util/List;)Ljava/util/List;" = some ⟨[(.object "java/util/List")], some (.object "java/util/List")⟩ := by decide +kernel
theorem own_pd8 : parseMethodDescriptor "()Ljava/util/OptionalInt;" = some ⟨[], some (.object "java/util/OptionalInt")⟩ := by decide +kernel
theorem own_pd9 : parseMethodDescriptor "()I" = some ⟨[], some .int⟩ := by decide +kernel
theorem own_pd10 : parseMethodDescriptor "(I)Ljava/util/OptionalInt;" = some ⟨[.int], some (.object "java/util/OptionalInt")⟩ := by decide +kernel
theorem own_pd11 : parseMethodDescriptor "(C)Ljava/lang/String;" = some ⟨[.char], some (.object "java/lang/String")⟩ := by decide +kernel
theorem own_pd12 : parseMethodDescriptor "(Ljava/lang/Integer;IILjava/lang/String;Ljava/util/List;Ljava/util/List;Z)V" = some ⟨[(.object "java/lang/Integer"), .int, .int, (.object "java/lang/String"), (.object "java/util/List"), (.object "java/util/List"), .boolean], none⟩ := by decide +kernel
theorem own_pd13 : parseMethodDescriptor "()Z" = some ⟨[], some .boolean⟩ := by decide +kernel
theorem own_pd14 : parseMethodDescriptor "(I)Ljava/lang/Integer;" = some ⟨[.int], some (.object "java/lang/Integer")⟩ := by decide +kernel
theorem d23_0 : decode jdk_18_method_1_code 0 = .ok (.aload_n 0, 1) := by decide +kernel
theorem d23_1 : decode jdk_18_method_1_code 1 = .ok (.invokespecial 1, 3) := by decide +kernel
theorem d23_4 : decode jdk_18_method_1_code 4 = .ok (.return_, 1) := by decide +kernel
theorem pn_23 : plainFor (⟨"java/lang/Number", "<init>", "()V"⟩ : MethodName) = true := plainFor_of_name (by first | (simp [plainName, overriddenIn]; done) | decide +kernel)
set_option maxRecDepth 65536 in
set_option maxHeartbeats 40000000 in
theorem rm23 (l : Launch) (Z : State) (a0 : Array Value) (hw : ∀ d ∈ tables_1, d.before a0 Z = true) (ws : List Jvm.Cond) (a1 : Addr)  (h0 : Heap) (n0 : Nat) (Z0 : n0 ≤ h0.size) :
    MetFree l (⟨"java/lang/Number", "<init>", "()V"⟩ : MethodName) (head1 (Jvm.Cond.code (⟨"java/lang/Number", "<init>", "()V"⟩ : MethodName) jdk_18_method_1_code 1 none :: ws) ({ frames := 1, cells := 0, slots := 0, locals := 12 } : Room)) (fun a U => a = #[(.ref a1)] ∧ Z.Warmed39 U.vm ∧ U.heap = h0) (fun _ _ _ _ _ => True) (fun _ U o U' => ∃ v L, o = .returned v ∧ QN h0 n0 v U'.heap L ∧ FrameEnd U o U' L ({ frames := 1, cells := 0, slots := 0, locals := 12 } : Room).cells ({ frames := 1, cells := 0, slots := 0, locals := 12 } : Room).slots) := by
  refine MetFree.of_bodySF pn_23 hisR ?_
  intro p e s m args below meth c s₁ Bd hml0 hP hK
  obtain ⟨rfl, hZ, hh⟩ := hP
  have hx := Bd.exec
  have hby := Bd.bytes
  have hml : c.maxLocals = 1 := hml0
  have hown : s.vm.findClass "java/lang/Number" = some m.cls := findClass_of_methodNamed Bd.named
  have hnm := (name_of_methodNamed Bd.named Bd.method).1
  have hlk : meth.locks = false := BodyLoose.notSynchronized Bd
  have X0 : Stand p l e ({ frames := 1, cells := 0, slots := 0, locals := 12 } : Room) s m #[(.ref a1)] below meth c s₁ [] 0 0 := Stand.of_body Bd
  have e0 : s₁.heap = h0 := by rw [← hh, Bd.state]; rfl
  have N0 := Fr.nil n0
  show own_Fin p e below (own_P (QN h0 n0) s ({ frames := 1, cells := 0, slots := 0, locals := 12 } : Room).cells ({ frames := 1, cells := 0, slots := 0, locals := 12 } : Room).slots) (s₁.setTop (entryFrame m #[(.ref a1)] 1))
  rw [show entryFrame m #[(.ref a1)] 1 = mkF m 0 #[.val (.ref a1)] [] from by first | (simp [entryFrame, mkF, argsToLocals, Value.category]; done) | rfl]
  refine own_go ?_ (fun tq kt => XS.aloadN X0.here hx rfl (hb hby d23_0) rfl rfl kt)
  show own_Fin _ _ _ _ (s₁.setTop (mkF m 1 #[.val (.ref a1)] [(.ref a1)]))
  obtain ⟨T2, X2, e2, st2⟩ := initO X0 hx hZ hown (hw _ (List.mem_of_getElem? (i := 174) rfl)) (hw _ (List.mem_of_getElem? (i := 26) rfl)) (hw _ (List.mem_of_getElem? (i := 27) rfl)) e0 (g := (mkF m 1 #[.val (.ref a1)] [(.ref a1)])) rfl (by rw [hml]; rfl) rfl (hb hby d23_1) (by decide) (W := 0) (by show 2 * 0 + _ ≤ _; exact Nat.le_of_eq rfl) (by decide)
  refine own_go ?_ (fun tq kt => st2 _ kt)
  show own_Fin _ _ _ _ (T2.setTop (mkF m 4 #[.val (.ref a1)] []))
  refine own_retV X2 hx Bd.returns (hb hby d23_4) hlk ?_ (by decide) (by decide)
  show QN h0 n0 _ T2.heap _
  rw [e2]
  exact ⟨rfl, N0, rfl⟩
theorem d22_0 : decode jdk_33_method_23_code 0 = .ok (.aload_n 0, 1) := by decide +kernel
theorem d22_1 : decode jdk_33_method_23_code 1 = .ok (.invokespecial 202, 3) := by decide +kernel
theorem d22_4 : decode jdk_33_method_23_code 4 = .ok (.aload_n 0, 1) := by decide +kernel
theorem d22_5 : decode jdk_33_method_23_code 5 = .ok (.iload_n 1, 1) := by decide +kernel
theorem d22_6 : decode jdk_33_method_23_code 6 = .ok (.putfield 205, 3) := by decide +kernel
theorem d22_9 : decode jdk_33_method_23_code 9 = .ok (.return_, 1) := by decide +kernel
theorem pn_22 : plainFor (⟨"java/lang/Integer", "<init>", "(I)V"⟩ : MethodName) = true := plainFor_of_name (by first | (simp [plainName, overriddenIn]; done) | decide +kernel)
set_option maxRecDepth 65536 in
set_option maxHeartbeats 40000000 in
theorem rm22 (l : Launch) (Z : State) (a0 : Array Value) (hw : ∀ d ∈ tables_1, d.before a0 Z = true) (ws : List Jvm.Cond) (a1 : Addr) (p2 : Int32)  (h0 : Heap) (n0 : Nat) (Z0 : n0 ≤ h0.size) (E1 : Exa Z h0 a1 "java/lang/Integer") (F_0 : Fld Z h0 a1 "java/lang/Integer" "value" "I" (.int (0 : Int32))) (g1 : n0 ≤ a1) :
    MetFree l (⟨"java/lang/Integer", "<init>", "(I)V"⟩ : MethodName) (head1 (Jvm.Cond.code (⟨"java/lang/Integer", "<init>", "(I)V"⟩ : MethodName) jdk_33_method_23_code 2 none :: ws) ({ frames := 2, cells := 0, slots := 0, locals := 24 } : Room)) (fun a U => a = #[(.ref a1), (.int p2)] ∧ Z.Warmed39 U.vm ∧ U.heap = h0) (fun _ _ _ _ _ => True) (fun _ U o U' => ∃ v L, o = .returned v ∧ QC22 Z a1 p2 h0 n0 v U'.heap L ∧ FrameEnd U o U' L ({ frames := 2, cells := 0, slots := 0, locals := 24 } : Room).cells ({ frames := 2, cells := 0, slots := 0, locals := 24 } : Room).slots) := by
  refine MetFree.of_bodySF pn_22 hisR ?_
  intro p e s m args below meth c s₁ Bd hml0 hP hK
  obtain ⟨rfl, hZ, hh⟩ := hP
  have hx := Bd.exec
  have hby := Bd.bytes
  have hml : c.maxLocals = 2 := hml0
  have hown : s.vm.findClass "java/lang/Integer" = some m.cls := findClass_of_methodNamed Bd.named
  have hnm := (name_of_methodNamed Bd.named Bd.method).1
  have hlk : meth.locks = false := BodyLoose.notSynchronized Bd
  have X0 : Stand p l e ({ frames := 2, cells := 0, slots := 0, locals := 24 } : Room) s m #[(.ref a1), (.int p2)] below meth c s₁ [] 0 0 := Stand.of_body Bd
  have e0 : s₁.heap = h0 := by rw [← hh, Bd.state]; rfl
  have N0 := Fr.nil n0
  show own_Fin p e below (own_P (QC22 Z a1 p2 h0 n0) s ({ frames := 2, cells := 0, slots := 0, locals := 24 } : Room).cells ({ frames := 2, cells := 0, slots := 0, locals := 24 } : Room).slots) (s₁.setTop (entryFrame m #[(.ref a1), (.int p2)] 2))
  rw [show entryFrame m #[(.ref a1), (.int p2)] 2 = mkF m 0 #[.val (.ref a1), .val (.int p2)] [] from by first | (simp [entryFrame, mkF, argsToLocals, Value.category]; done) | rfl]
  have kp0 := Keep.refl h0 [a1]
  refine own_go ?_ (fun tq kt => XS.aloadN X0.here hx rfl (hb hby d22_0) rfl rfl kt)
  show own_Fin _ _ _ _ (s₁.setTop (mkF m 1 #[.val (.ref a1), .val (.int p2)] [(.ref a1)]))
  obtain ⟨_, _, ⟨T6, L6, k6, n6⟩, -, X6, ⟨Lc6, hQ6, l6, y6, z6⟩, st6⟩ := X0.specialBack hx (y := (⟨"java/lang/Number", "<init>", "()V"⟩ : MethodName)) rfl hown (mvT hZ (hw _ (List.mem_of_getElem? (i := 168) rfl))) (mvT hZ (hw _ (List.mem_of_getElem? (i := 169) rfl))) (mvT hZ (hw _ (List.mem_of_getElem? (i := 173) rfl))) (by decide) (backOf (W := 0) (rm23 l Z a0 hw [] a1 h0 n0 Z0) hZ (hw _ (List.mem_of_getElem? (i := 173) rfl)) (hw _ (List.mem_of_getElem? (i := 172) rfl)) (by decide) (by decide)) (g := (mkF m 1 #[.val (.ref a1), .val (.int p2)] [(.ref a1)])) rfl (by rw [hml]; rfl) (Steps.refl _) (a := a1) (argsL := []) (rest := []) (lenOf own_pd0 rfl) rfl (by show 2 * 0 + _ ≤ _; exact Nat.le_of_eq rfl) (hb hby d22_1) (fun _ _ => ⟨rfl, e0, (by decide : 0 + 0 ≤ _), (by decide : 0 + 0 ≤ _)⟩)
  dsimp only [Pt.U, Pt.locs, Pt.cells, Pt.slots] at X6 l6 y6 z6 st6 hQ6
  subst l6 y6 z6
  obtain ⟨rfl, N6q, e6⟩ := hQ6
  have N6 := Fr.app N0 N6q
  refine own_go ?_ (fun tq kt => st6.trans kt)
  show own_Fin _ _ _ _ (T6.setTop (mkF m 4 #[.val (.ref a1), .val (.int p2)] []))
  refine own_go ?_ (fun tq kt => XS.aloadN X6.here hx rfl (hb hby d22_4) rfl rfl kt)
  show own_Fin _ _ _ _ (T6.setTop (mkF m 5 #[.val (.ref a1), .val (.int p2)] [(.ref a1)]))
  refine own_go ?_ (fun tq kt => XS.iloadN X6.here hx rfl (hb hby d22_5) rfl kt)
  show own_Fin _ _ _ _ (T6.setTop (mkF m 6 #[.val (.ref a1), .val (.int p2)] [(.int p2), (.ref a1)]))
  obtain ⟨T7, h7, X7, e7, W7, st7⟩ := putF X6 hx hZ hown (host := "") (Or.inl (hw _ (List.mem_of_getElem? (i := 131) rfl))) Via.refl e6 F_0 E1 (Or.inr ⟨(hw _ (List.mem_of_getElem? (i := 132) rfl)), rfl, hnm⟩) (hw _ (List.mem_of_getElem? (i := 163) rfl)) (ty := .int) (by decide) rfl rfl (g := (mkF m 6 #[.val (.ref a1), .val (.int p2)] [(.int p2), (.ref a1)])) rfl rfl (hb hby d22_6)
  have zs8 := Nat.le_trans Z0 (Keep.of_wr W7).1
  have kp8 : Keep h0 h7 [a1] := kp0.wr W7 (Or.inl (List.mem_of_getElem? (i := 0) rfl))
  have Fw7 := (F_0).same W7
  have N7 := Fr.snoc X7 N6 g1
  refine own_go ?_ (fun tq kt => st7 _ kt)
  show own_Fin _ _ _ _ (T7.setTop (mkF m 9 #[.val (.ref a1), .val (.int p2)] []))
  refine own_retV X7 hx Bd.returns (hb hby d22_9) hlk ?_ (by decide) (by decide)
  show QC22 Z a1 p2 h0 n0 _ T7.heap _
  rw [e7]
  exact ⟨rfl, N7, kp8, Fw7⟩
theorem d1_0 : decode jdk_33_method_22_code 0 = .ok (.iload_n 0, 1) := by decide +kernel
theorem d1_1 : decode jdk_33_method_22_code 1 = .ok (.bipush (-128), 2) := by decide +kernel
theorem d1_3 : decode jdk_33_method_22_code 3 = .ok (.if_icmp .lt 20, 3) := by decide +kernel
theorem d1_6 : decode jdk_33_method_22_code 6 = .ok (.iload_n 0, 1) := by decide +kernel
theorem d1_7 : decode jdk_33_method_22_code 7 = .ok (.getstatic 191, 3) := by decide +kernel
theorem d1_10 : decode jdk_33_method_22_code 10 = .ok (.if_icmp .gt 13, 3) := by decide +kernel
theorem d1_13 : decode jdk_33_method_22_code 13 = .ok (.getstatic 195, 3) := by decide +kernel
theorem d1_16 : decode jdk_33_method_22_code 16 = .ok (.iload_n 0, 1) := by decide +kernel
theorem d1_17 : decode jdk_33_method_22_code 17 = .ok (.sipush 128, 3) := by decide +kernel
theorem d1_20 : decode jdk_33_method_22_code 20 = .ok (.iadd, 1) := by decide +kernel
theorem d1_21 : decode jdk_33_method_22_code 21 = .ok (.aaload, 1) := by decide +kernel
theorem d1_22 : decode jdk_33_method_22_code 22 = .ok (.areturn, 1) := by decide +kernel
theorem d1_23 : decode jdk_33_method_22_code 23 = .ok (.new 1, 3) := by decide +kernel
theorem d1_26 : decode jdk_33_method_22_code 26 = .ok (.dup, 1) := by decide +kernel
theorem d1_27 : decode jdk_33_method_22_code 27 = .ok (.iload_n 0, 1) := by decide +kernel
theorem d1_28 : decode jdk_33_method_22_code 28 = .ok (.invokespecial 199, 3) := by decide +kernel
theorem d1_31 : decode jdk_33_method_22_code 31 = .ok (.areturn, 1) := by decide +kernel
theorem pn_1 : plainFor (⟨"java/lang/Integer", "valueOf", "(I)Ljava/lang/Integer;"⟩ : MethodName) = true := plainFor_of_name (by first | (simp [plainName, overriddenIn]; done) | decide +kernel)
set_option maxRecDepth 65536 in
set_option maxHeartbeats 40000000 in
theorem rm1 (l : Launch) (Z : State) (a0 : Array Value) (hw : ∀ d ∈ tables_1, d.before a0 Z = true) (ws : List Jvm.Cond) (p1 : Int32) (ca : Addr) (cl : Cell) (h0 : Heap) (n0 : Nat) (Z0 : n0 ≤ h0.size) (O0 : Old Z n0 h0) (SHI : Sta Z Z.heap "java/lang/Integer$IntegerCache" "high" "I" (.int (127 : Int32))) (SCA : Sta Z Z.heap "java/lang/Integer$IntegerCache" "cache" "[Ljava/lang/Integer;" (.ref ca)) (ACA : Arr Z Z.heap ca cl (.object "java/lang/Integer")) (ZCA : cl.slots.size = (256 : Int32).toNatClampNeg) (BCA : own_Box Z cl) :
    MetFree l (⟨"java/lang/Integer", "valueOf", "(I)Ljava/lang/Integer;"⟩ : MethodName) (head1 (Jvm.Cond.code (⟨"java/lang/Integer", "valueOf", "(I)Ljava/lang/Integer;"⟩ : MethodName) jdk_33_method_22_code 1 (some (.object "java/lang/Integer")) :: ws) ({ frames := 3, cells := 1, slots := 1, locals := 38 } : Room)) (fun a U => a = #[(.int p1)] ∧ Z.Warmed39 U.vm ∧ U.heap = h0) (fun _ _ _ _ _ => True) (fun _ U o U' => ∃ v L, o = .returned v ∧ QIV Z p1 h0 n0 v U'.heap L ∧ FrameEnd U o U' L ({ frames := 3, cells := 1, slots := 1, locals := 38 } : Room).cells ({ frames := 3, cells := 1, slots := 1, locals := 38 } : Room).slots) := by
  refine MetFree.of_bodySF pn_1 hisR ?_
  intro p e s m args below meth c s₁ Bd hml0 hP hK
  obtain ⟨rfl, hZ, hh⟩ := hP
  have hx := Bd.exec
  have hby := Bd.bytes
  have hml : c.maxLocals = 1 := hml0
  have hown : s.vm.findClass "java/lang/Integer" = some m.cls := findClass_of_methodNamed Bd.named
  have hnm := (name_of_methodNamed Bd.named Bd.method).1
  have hlk : meth.locks = false := BodyLoose.notSynchronized Bd
  have X0 : Stand p l e ({ frames := 3, cells := 1, slots := 1, locals := 38 } : Room) s m #[(.int p1)] below meth c s₁ [] 0 0 := Stand.of_body Bd
  have e0 : s₁.heap = h0 := by rw [← hh, Bd.state]; rfl
  have N0 := Fr.nil n0
  show own_Fin p e below (own_P (QIV Z p1 h0 n0) s ({ frames := 3, cells := 1, slots := 1, locals := 38 } : Room).cells ({ frames := 3, cells := 1, slots := 1, locals := 38 } : Room).slots) (s₁.setTop (entryFrame m #[(.int p1)] 1))
  rw [show entryFrame m #[(.int p1)] 1 = mkF m 0 #[.val (.int p1)] [] from by first | (simp [entryFrame, mkF, argsToLocals, Value.category]; done) | rfl]
  have kp0 := Keep.refl h0 []
  refine own_go ?_ (fun tq kt => XS.iloadN X0.here hx rfl (hb hby d1_0) rfl kt)
  show own_Fin _ _ _ _ (s₁.setTop (mkF m 1 #[.val (.int p1)] [(.int p1)]))
  refine own_go ?_ (fun tq kt => XS.bipush X0.here hx rfl (hb hby d1_1) kt)
  show own_Fin _ _ _ _ (s₁.setTop (mkF m 3 #[.val (.int p1)] [(.int (-128 : Int32)), (.int p1)]))
  by_cases hc3_21 : p1 < (-128 : Int32)
  · refine own_go ?_ (fun tq kt => XS.icmpYes X0.here hx rfl (pc0 := 3) (pc' := 23) rfl (hb hby d1_3) rfl (tlt (hc3_21 : p1 < (-128 : Int32))).1 (by decide) (by decide) kt)
    show own_Fin _ _ _ _ (s₁.setTop (mkF m 23 #[.val (.int p1)] []))
    obtain ⟨T22, h22, X22, e22, E22, A22, D22, -, st22⟩ := newO X0 hx hZ hown (hw _ (List.mem_of_getElem? (i := 162) rfl)) (hw _ (List.mem_of_getElem? (i := 163) rfl)) (hw _ (List.mem_of_getElem? (i := 2) rfl)) e0 (g := (mkF m 23 #[.val (.int p1)] [])) rfl (hb hby d1_23) (by decide) (by decide)
    obtain ⟨b22, g22⟩ : ∃ z, z = h0.size := ⟨_, rfl⟩
    rw [← g22] at A22 D22 st22
    have zs23 := Nat.le_trans Z0 E22.1
    have od23 := O0.ext E22
    have kp23 : Keep h0 h22 [] := kp0.ext E22
    have g_b22 : n0 ≤ b22 := Nat.le_trans Z0 (Nat.le_of_eq g22.symm)
    have sz_b22 : h0.size ≤ b22 := Nat.le_trans kp0.1 (Nat.le_of_eq g22.symm)
    have ne_ca_b22 : ca ≠ b22 := od23.ne (ACA).lt g_b22
    have F22_value : Fld Z h22 b22 "java/lang/Integer" "value" "I" (.int (0 : Int32)) := D22 (Or.inr (hw _ (List.mem_of_getElem? (i := 132) rfl))) (ty := .int) (by decide)
    refine own_go ?_ (fun tq kt => st22 _ kt)
    show own_Fin _ _ _ _ (T22.setTop (mkF m 26 #[.val (.int p1)] [(.ref b22)]))
    refine own_go ?_ (fun tq kt => XS.dup X22.here hx rfl (hb hby d1_26) rfl rfl kt)
    show own_Fin _ _ _ _ (T22.setTop (mkF m 27 #[.val (.int p1)] [(.ref b22), (.ref b22)]))
    refine own_go ?_ (fun tq kt => XS.iloadN X22.here hx rfl (hb hby d1_27) rfl kt)
    show own_Fin _ _ _ _ (T22.setTop (mkF m 28 #[.val (.int p1)] [(.int p1), (.ref b22), (.ref b22)]))
    obtain ⟨_, _, ⟨T24, L24, k24, n24⟩, -, X24, ⟨Lc24, hQ24, l24, y24, z24⟩, st24⟩ := X22.specialBack hx (y := (⟨"java/lang/Integer", "<init>", "(I)V"⟩ : MethodName)) rfl hown (mvT hZ (hw _ (List.mem_of_getElem? (i := 164) rfl))) (mvT hZ (hw _ (List.mem_of_getElem? (i := 165) rfl))) (mvT hZ (hw _ (List.mem_of_getElem? (i := 167) rfl))) (by decide) (backOf (W := 1) (rm22 l Z a0 hw [] b22 p1  h22 n0 zs23  A22 F22_value g_b22  ) hZ (hw _ (List.mem_of_getElem? (i := 167) rfl)) (hw _ (List.mem_of_getElem? (i := 2) rfl)) (by decide) (by decide)) (g := (mkF m 28 #[.val (.int p1)] [(.int p1), (.ref b22), (.ref b22)])) rfl (by rw [hml]; rfl) (Steps.refl _) (a := b22) (argsL := [(.int p1)]) (rest := [(.ref b22)]) (lenOf own_pd1 rfl) rfl (by show 2 * 0 + _ ≤ _; exact Nat.le_of_eq rfl) (hb hby d1_28) (fun _ _ => ⟨rfl, e22, (by decide : 1 + 0 ≤ _), (by decide : 1 + 0 ≤ _)⟩)
    dsimp only [Pt.U, Pt.locs, Pt.cells, Pt.slots] at X24 l24 y24 z24 st24 hQ24
    subst l24 y24 z24
    obtain ⟨rfl, N24q, K24, F24_0⟩ := hQ24
    have N24 := Fr.app N0 N24q
    obtain ⟨h24, e24⟩ : ∃ z, z = T24.heap := ⟨_, rfl⟩
    have e24' := e24.symm
    rw [← e24] at K24 F24_0
    have zs25 := Nat.le_trans zs23 K24.1
    have od25 := od23.keep K24 (allS g_b22 all0)
    have kp25 : Keep h0 h24 [] := kp23.trans K24 (allS (Or.inr sz_b22) all0)
    refine own_go ?_ (fun tq kt => st24.trans kt)
    show own_Fin _ _ _ _ (T24.setTop (mkF m 31 #[.val (.int p1)] [(.ref b22)]))
    refine own_retO X24 hx (t := (.object "java/lang/Integer")) Bd.returns rfl (Or.inr (Or.inr (Or.inr (Or.inr ⟨rfl, rfl, rfl⟩)))) (hb hby d1_31) hlk ?_ (by decide) (by decide)
    show QIV Z p1 h0 n0 _ T24.heap _
    rw [e24']
    exact ⟨_, rfl, N24, own_extK kp25, (A22.keep K24), F24_0⟩
  · refine own_go ?_ (fun tq kt => XS.icmpNo X0.here hx rfl (hb hby d1_3) rfl (flt (hc3_21 : ¬ (p1 < (-128 : Int32)))).1 kt)
    show own_Fin _ _ _ _ (s₁.setTop (mkF m 6 #[.val (.int p1)] []))
    refine own_go ?_ (fun tq kt => XS.iloadN X0.here hx rfl (hb hby d1_6) rfl kt)
    show own_Fin _ _ _ _ (s₁.setTop (mkF m 7 #[.val (.int p1)] [(.int p1)]))
    obtain ⟨T26, X26, e26, st26⟩ := getS2 X0 hx hZ hown (host := "") (Or.inl (hw _ (List.mem_of_getElem? (i := 4) rfl))) Via.refl e0 (SHI.ext O0.2) (g := (mkF m 7 #[.val (.int p1)] [(.int p1)])) rfl (hb hby d1_7)
    refine own_go ?_ (fun tq kt => st26 _ kt)
    show own_Fin _ _ _ _ (T26.setTop (mkF m 10 #[.val (.int p1)] [(.int (127 : Int32)), (.int p1)]))
    by_cases hc10_27 : (127 : Int32) < p1
    · refine own_go ?_ (fun tq kt => XS.icmpYes X26.here hx rfl (pc0 := 10) (pc' := 23) rfl (hb hby d1_10) rfl (tlt (hc10_27 : (127 : Int32) < p1)).2.2.1 (by decide) (by decide) kt)
      show own_Fin _ _ _ _ (T26.setTop (mkF m 23 #[.val (.int p1)] []))
      obtain ⟨T28, h28, X28, e28, E28, A28, D28, -, st28⟩ := newO X26 hx hZ hown (hw _ (List.mem_of_getElem? (i := 162) rfl)) (hw _ (List.mem_of_getElem? (i := 163) rfl)) (hw _ (List.mem_of_getElem? (i := 2) rfl)) e26 (g := (mkF m 23 #[.val (.int p1)] [])) rfl (hb hby d1_23) (by decide) (by decide)
      obtain ⟨b28, g28⟩ : ∃ z, z = h0.size := ⟨_, rfl⟩
      rw [← g28] at A28 D28 st28
      have zs29 := Nat.le_trans Z0 E28.1
      have od29 := O0.ext E28
      have kp29 : Keep h0 h28 [] := kp0.ext E28
      have g_b28 : n0 ≤ b28 := Nat.le_trans Z0 (Nat.le_of_eq g28.symm)
      have sz_b28 : h0.size ≤ b28 := Nat.le_trans kp0.1 (Nat.le_of_eq g28.symm)
      have ne_ca_b28 : ca ≠ b28 := od29.ne (ACA).lt g_b28
      have F28_value : Fld Z h28 b28 "java/lang/Integer" "value" "I" (.int (0 : Int32)) := D28 (Or.inr (hw _ (List.mem_of_getElem? (i := 132) rfl))) (ty := .int) (by decide)
      refine own_go ?_ (fun tq kt => st28 _ kt)
      show own_Fin _ _ _ _ (T28.setTop (mkF m 26 #[.val (.int p1)] [(.ref b28)]))
      refine own_go ?_ (fun tq kt => XS.dup X28.here hx rfl (hb hby d1_26) rfl rfl kt)
      show own_Fin _ _ _ _ (T28.setTop (mkF m 27 #[.val (.int p1)] [(.ref b28), (.ref b28)]))
      refine own_go ?_ (fun tq kt => XS.iloadN X28.here hx rfl (hb hby d1_27) rfl kt)
      show own_Fin _ _ _ _ (T28.setTop (mkF m 28 #[.val (.int p1)] [(.int p1), (.ref b28), (.ref b28)]))
      obtain ⟨_, _, ⟨T30, L30, k30, n30⟩, -, X30, ⟨Lc30, hQ30, l30, y30, z30⟩, st30⟩ := X28.specialBack hx (y := (⟨"java/lang/Integer", "<init>", "(I)V"⟩ : MethodName)) rfl hown (mvT hZ (hw _ (List.mem_of_getElem? (i := 164) rfl))) (mvT hZ (hw _ (List.mem_of_getElem? (i := 165) rfl))) (mvT hZ (hw _ (List.mem_of_getElem? (i := 167) rfl))) (by decide) (backOf (W := 1) (rm22 l Z a0 hw [] b28 p1  h28 n0 zs29  A28 F28_value g_b28  ) hZ (hw _ (List.mem_of_getElem? (i := 167) rfl)) (hw _ (List.mem_of_getElem? (i := 2) rfl)) (by decide) (by decide)) (g := (mkF m 28 #[.val (.int p1)] [(.int p1), (.ref b28), (.ref b28)])) rfl (by rw [hml]; rfl) (Steps.refl _) (a := b28) (argsL := [(.int p1)]) (rest := [(.ref b28)]) (lenOf own_pd1 rfl) rfl (by show 2 * 0 + _ ≤ _; exact Nat.le_of_eq rfl) (hb hby d1_28) (fun _ _ => ⟨rfl, e28, (by decide : 1 + 0 ≤ _), (by decide : 1 + 0 ≤ _)⟩)
      dsimp only [Pt.U, Pt.locs, Pt.cells, Pt.slots] at X30 l30 y30 z30 st30 hQ30
      subst l30 y30 z30
      obtain ⟨rfl, N30q, K30, F30_0⟩ := hQ30
      have N30 := Fr.app N0 N30q
      obtain ⟨h30, e30⟩ : ∃ z, z = T30.heap := ⟨_, rfl⟩
      have e30' := e30.symm
      rw [← e30] at K30 F30_0
      have zs31 := Nat.le_trans zs29 K30.1
      have od31 := od29.keep K30 (allS g_b28 all0)
      have kp31 : Keep h0 h30 [] := kp29.trans K30 (allS (Or.inr sz_b28) all0)
      refine own_go ?_ (fun tq kt => st30.trans kt)
      show own_Fin _ _ _ _ (T30.setTop (mkF m 31 #[.val (.int p1)] [(.ref b28)]))
      refine own_retO X30 hx (t := (.object "java/lang/Integer")) Bd.returns rfl (Or.inr (Or.inr (Or.inr (Or.inr ⟨rfl, rfl, rfl⟩)))) (hb hby d1_31) hlk ?_ (by decide) (by decide)
      show QIV Z p1 h0 n0 _ T30.heap _
      rw [e30']
      exact ⟨_, rfl, N30, own_extK kp31, (A28.keep K30), F30_0⟩
    · refine own_go ?_ (fun tq kt => XS.icmpNo X26.here hx rfl (hb hby d1_10) rfl (flt (hc10_27 : ¬ ((127 : Int32) < p1))).2.2.1 kt)
      show own_Fin _ _ _ _ (T26.setTop (mkF m 13 #[.val (.int p1)] []))
      obtain ⟨T32, X32, e32, st32⟩ := getS2 X26 hx hZ hown (host := "") (Or.inl (hw _ (List.mem_of_getElem? (i := 6) rfl))) Via.refl e26 (SCA.ext O0.2) (g := (mkF m 13 #[.val (.int p1)] [])) rfl (hb hby d1_13)
      refine own_go ?_ (fun tq kt => st32 _ kt)
      show own_Fin _ _ _ _ (T32.setTop (mkF m 16 #[.val (.int p1)] [(.ref ca)]))
      refine own_go ?_ (fun tq kt => XS.iloadN X32.here hx rfl (hb hby d1_16) rfl kt)
      show own_Fin _ _ _ _ (T32.setTop (mkF m 17 #[.val (.int p1)] [(.int p1), (.ref ca)]))
      refine own_go ?_ (fun tq kt => XS.sipush X32.here hx rfl (hb hby d1_17) kt)
      show own_Fin _ _ _ _ (T32.setTop (mkF m 20 #[.val (.int p1)] [(.int (128 : Int32)), (.int p1), (.ref ca)]))
      refine own_go ?_ (fun tq kt => XS.iadd X32.here hx rfl (hb hby d1_20) rfl kt)
      show own_Fin _ _ _ _ (T32.setTop (mkF m 21 #[.val (.int p1)] [(.int (p1 + (128 : Int32))), (.ref ca)]))
      have hin := own_in256 p1 hc3_21 hc10_27 ZCA
      obtain ⟨xb, x1, x2, x3⟩ := BCA _ hin
      rw [own_back128] at x3
      have AR := ACA.ext O0.2
      refine own_go ?_ (fun tq kt => X32.aaload hx (j := (p1 + (128 : Int32))) (v := .ref xb) (by rw [e32]; exact AR.1) (State.isArrayOf_alike hZ.alike AR.2.1) rfl AR.2.2 hin x1 (g := (mkF m 21 #[.val (.int p1)] [(.int (p1 + (128 : Int32))), (.ref ca)])) rfl rfl (hb hby d1_21) _ kt)
      show own_Fin _ _ _ _ (T32.setTop (mkF m 22 #[.val (.int p1)] [(.ref xb)]))
      refine own_retO X32 hx (t := (.object "java/lang/Integer")) Bd.returns rfl (Or.inr (Or.inr (Or.inr (Or.inr ⟨rfl, rfl, rfl⟩)))) (hb hby d1_22) hlk ?_ (by decide) (by decide)
      show QIV Z p1 h0 n0 _ T32.heap _
      rw [e32]
      exact ⟨_, rfl, N0, own_extK kp0, (x2.ext O0.2), (x3.ext O0.2)⟩
theorem d4_0 : decode jdk_22_method_1_code 0 = .ok (.aload_n 0, 1) := by decide +kernel
theorem d4_1 : decode jdk_22_method_1_code 1 = .ok (.invokespecial 1, 3) := by decide +kernel
theorem d4_4 : decode jdk_22_method_1_code 4 = .ok (.return_, 1) := by decide +kernel
theorem pn_4 : plainFor (⟨"java/util/AbstractCollection", "<init>", "()V"⟩ : MethodName) = true := plainFor_of_name (by first | (simp [plainName, overriddenIn]; done) | decide +kernel)
set_option maxRecDepth 65536 in
set_option maxHeartbeats 40000000 in
theorem rm4 (l : Launch) (Z : State) (a0 : Array Value) (hw : ∀ d ∈ tables_1, d.before a0 Z = true) (ws : List Jvm.Cond) (a1 : Addr)  (h0 : Heap) (n0 : Nat) (Z0 : n0 ≤ h0.size) :
    MetFree l (⟨"java/util/AbstractCollection", "<init>", "()V"⟩ : MethodName) (head1 (Jvm.Cond.code (⟨"java/util/AbstractCollection", "<init>", "()V"⟩ : MethodName) jdk_22_method_1_code 1 none :: ws) ({ frames := 1, cells := 0, slots := 0, locals := 12 } : Room)) (fun a U => a = #[(.ref a1)] ∧ Z.Warmed39 U.vm ∧ U.heap = h0) (fun _ _ _ _ _ => True) (fun _ U o U' => ∃ v L, o = .returned v ∧ QN h0 n0 v U'.heap L ∧ FrameEnd U o U' L ({ frames := 1, cells := 0, slots := 0, locals := 12 } : Room).cells ({ frames := 1, cells := 0, slots := 0, locals := 12 } : Room).slots) := by
  refine MetFree.of_bodySF pn_4 hisR ?_
  intro p e s m args below meth c s₁ Bd hml0 hP hK
  obtain ⟨rfl, hZ, hh⟩ := hP
  have hx := Bd.exec
  have hby := Bd.bytes
  have hml : c.maxLocals = 1 := hml0
  have hown : s.vm.findClass "java/util/AbstractCollection" = some m.cls := findClass_of_methodNamed Bd.named
  have hnm := (name_of_methodNamed Bd.named Bd.method).1
  have hlk : meth.locks = false := BodyLoose.notSynchronized Bd
  have X0 : Stand p l e ({ frames := 1, cells := 0, slots := 0, locals := 12 } : Room) s m #[(.ref a1)] below meth c s₁ [] 0 0 := Stand.of_body Bd
  have e0 : s₁.heap = h0 := by rw [← hh, Bd.state]; rfl
  have N0 := Fr.nil n0
  show own_Fin p e below (own_P (QN h0 n0) s ({ frames := 1, cells := 0, slots := 0, locals := 12 } : Room).cells ({ frames := 1, cells := 0, slots := 0, locals := 12 } : Room).slots) (s₁.setTop (entryFrame m #[(.ref a1)] 1))
  rw [show entryFrame m #[(.ref a1)] 1 = mkF m 0 #[.val (.ref a1)] [] from by first | (simp [entryFrame, mkF, argsToLocals, Value.category]; done) | rfl]
  refine own_go ?_ (fun tq kt => XS.aloadN X0.here hx rfl (hb hby d4_0) rfl rfl kt)
  show own_Fin _ _ _ _ (s₁.setTop (mkF m 1 #[.val (.ref a1)] [(.ref a1)]))
  obtain ⟨T34, X34, e34, st34⟩ := initO X0 hx hZ hown (hw _ (List.mem_of_getElem? (i := 25) rfl)) (hw _ (List.mem_of_getElem? (i := 26) rfl)) (hw _ (List.mem_of_getElem? (i := 27) rfl)) e0 (g := (mkF m 1 #[.val (.ref a1)] [(.ref a1)])) rfl (by rw [hml]; rfl) rfl (hb hby d4_1) (by decide) (W := 0) (by show 2 * 0 + _ ≤ _; exact Nat.le_of_eq rfl) (by decide)
  refine own_go ?_ (fun tq kt => st34 _ kt)
  show own_Fin _ _ _ _ (T34.setTop (mkF m 4 #[.val (.ref a1)] []))
  refine own_retV X34 hx Bd.returns (hb hby d4_4) hlk ?_ (by decide) (by decide)
  show QN h0 n0 _ T34.heap _
  rw [e34]
  exact ⟨rfl, N0, rfl⟩
theorem d3_0 : decode jdk_39_method_1_code 0 = .ok (.aload_n 0, 1) := by decide +kernel
theorem d3_1 : decode jdk_39_method_1_code 1 = .ok (.invokespecial 1, 3) := by decide +kernel
theorem d3_4 : decode jdk_39_method_1_code 4 = .ok (.aload_n 0, 1) := by decide +kernel
theorem d3_5 : decode jdk_39_method_1_code 5 = .ok (.iconst 0, 1) := by decide +kernel
theorem d3_6 : decode jdk_39_method_1_code 6 = .ok (.putfield 7, 3) := by decide +kernel
theorem d3_9 : decode jdk_39_method_1_code 9 = .ok (.return_, 1) := by decide +kernel
theorem pn_3 : plainFor (⟨"java/util/AbstractList", "<init>", "()V"⟩ : MethodName) = true := plainFor_of_name (by first | (simp [plainName, overriddenIn]; done) | decide +kernel)
set_option maxRecDepth 65536 in
set_option maxHeartbeats 40000000 in
theorem rm3 (l : Launch) (Z : State) (a0 : Array Value) (hw : ∀ d ∈ tables_1, d.before a0 Z = true) (ws : List Jvm.Cond) (a1 : Addr)  (h0 : Heap) (n0 : Nat) (Z0 : n0 ≤ h0.size) (E1 : Exa Z h0 a1 "java/util/ArrayList") (F_0 : Fld Z h0 a1 "java/util/AbstractList" "modCount" "I" (.int (0 : Int32))) (F_1 : Fld Z h0 a1 "java/util/ArrayList" "elementData" "[Ljava/lang/Object;" .null) (g1 : n0 ≤ a1) :
    MetFree l (⟨"java/util/AbstractList", "<init>", "()V"⟩ : MethodName) (head1 (Jvm.Cond.code (⟨"java/util/AbstractList", "<init>", "()V"⟩ : MethodName) jdk_39_method_1_code 1 none :: ws) ({ frames := 2, cells := 0, slots := 0, locals := 24 } : Room)) (fun a U => a = #[(.ref a1)] ∧ Z.Warmed39 U.vm ∧ U.heap = h0) (fun _ _ _ _ _ => True) (fun _ U o U' => ∃ v L, o = .returned v ∧ QC3 Z a1 h0 n0 v U'.heap L ∧ FrameEnd U o U' L ({ frames := 2, cells := 0, slots := 0, locals := 24 } : Room).cells ({ frames := 2, cells := 0, slots := 0, locals := 24 } : Room).slots) := by
  refine MetFree.of_bodySF pn_3 hisR ?_
  intro p e s m args below meth c s₁ Bd hml0 hP hK
  obtain ⟨rfl, hZ, hh⟩ := hP
  have hx := Bd.exec
  have hby := Bd.bytes
  have hml : c.maxLocals = 1 := hml0
  have hown : s.vm.findClass "java/util/AbstractList" = some m.cls := findClass_of_methodNamed Bd.named
  have hnm := (name_of_methodNamed Bd.named Bd.method).1
  have hlk : meth.locks = false := BodyLoose.notSynchronized Bd
  have X0 : Stand p l e ({ frames := 2, cells := 0, slots := 0, locals := 24 } : Room) s m #[(.ref a1)] below meth c s₁ [] 0 0 := Stand.of_body Bd
  have e0 : s₁.heap = h0 := by rw [← hh, Bd.state]; rfl
  have N0 := Fr.nil n0
  show own_Fin p e below (own_P (QC3 Z a1 h0 n0) s ({ frames := 2, cells := 0, slots := 0, locals := 24 } : Room).cells ({ frames := 2, cells := 0, slots := 0, locals := 24 } : Room).slots) (s₁.setTop (entryFrame m #[(.ref a1)] 1))
  rw [show entryFrame m #[(.ref a1)] 1 = mkF m 0 #[.val (.ref a1)] [] from by first | (simp [entryFrame, mkF, argsToLocals, Value.category]; done) | rfl]
  have kp0 := Keep.refl h0 [a1]
  refine own_go ?_ (fun tq kt => XS.aloadN X0.here hx rfl (hb hby d3_0) rfl rfl kt)
  show own_Fin _ _ _ _ (s₁.setTop (mkF m 1 #[.val (.ref a1)] [(.ref a1)]))
  obtain ⟨_, _, ⟨T38, L38, k38, n38⟩, -, X38, ⟨Lc38, hQ38, l38, y38, z38⟩, st38⟩ := X0.specialBack hx (y := (⟨"java/util/AbstractCollection", "<init>", "()V"⟩ : MethodName)) rfl hown (mvT hZ (hw _ (List.mem_of_getElem? (i := 19) rfl))) (mvT hZ (hw _ (List.mem_of_getElem? (i := 20) rfl))) (mvT hZ (hw _ (List.mem_of_getElem? (i := 24) rfl))) (by decide) (backOf (W := 0) (rm4 l Z a0 hw [] a1 h0 n0 Z0) hZ (hw _ (List.mem_of_getElem? (i := 24) rfl)) (hw _ (List.mem_of_getElem? (i := 23) rfl)) (by decide) (by decide)) (g := (mkF m 1 #[.val (.ref a1)] [(.ref a1)])) rfl (by rw [hml]; rfl) (Steps.refl _) (a := a1) (argsL := []) (rest := []) (lenOf own_pd0 rfl) rfl (by show 2 * 0 + _ ≤ _; exact Nat.le_of_eq rfl) (hb hby d3_1) (fun _ _ => ⟨rfl, e0, (by decide : 0 + 0 ≤ _), (by decide : 0 + 0 ≤ _)⟩)
  dsimp only [Pt.U, Pt.locs, Pt.cells, Pt.slots] at X38 l38 y38 z38 st38 hQ38
  subst l38 y38 z38
  obtain ⟨rfl, N38q, e38⟩ := hQ38
  have N38 := Fr.app N0 N38q
  refine own_go ?_ (fun tq kt => st38.trans kt)
  show own_Fin _ _ _ _ (T38.setTop (mkF m 4 #[.val (.ref a1)] []))
  refine own_go ?_ (fun tq kt => XS.aloadN X38.here hx rfl (hb hby d3_4) rfl rfl kt)
  show own_Fin _ _ _ _ (T38.setTop (mkF m 5 #[.val (.ref a1)] [(.ref a1)]))
  refine own_go ?_ (fun tq kt => XS.iconst X38.here hx rfl (hb hby d3_5) kt)
  show own_Fin _ _ _ _ (T38.setTop (mkF m 6 #[.val (.ref a1)] [(.int (0 : Int32)), (.ref a1)]))
  obtain ⟨T39, h39, X39, e39, W39, st39⟩ := putF X38 hx hZ hown (host := "") (Or.inl (hw _ (List.mem_of_getElem? (i := 28) rfl))) Via.refl e38 F_0 E1 (Or.inl (hw _ (List.mem_of_getElem? (i := 29) rfl))) (hw _ (List.mem_of_getElem? (i := 8) rfl)) (ty := .int) (by decide) rfl rfl (g := (mkF m 6 #[.val (.ref a1)] [(.int (0 : Int32)), (.ref a1)])) rfl rfl (hb hby d3_6)
  have zs40 := Nat.le_trans Z0 (Keep.of_wr W39).1
  have kp40 : Keep h0 h39 [a1] := kp0.wr W39 (Or.inl (List.mem_of_getElem? (i := 0) rfl))
  have Fw39 := (F_0).same W39
  have N39 := Fr.snoc X39 N38 g1
  refine own_go ?_ (fun tq kt => st39 _ kt)
  show own_Fin _ _ _ _ (T39.setTop (mkF m 9 #[.val (.ref a1)] []))
  refine own_retV X39 hx Bd.returns (hb hby d3_9) hlk ?_ (by decide) (by decide)
  show QC3 Z a1 h0 n0 _ T39.heap _
  rw [e39]
  exact ⟨rfl, N39, kp40, Fw39, (F_1.other W39 (Or.inr (slot_ne (Or.inl (hw _ (List.mem_of_getElem? (i := 32) rfl))) (Or.inl (hw _ (List.mem_of_getElem? (i := 29) rfl))) (by decide) (t := (.array (.object "java/lang/Object"))) (t' := .int) (by decide) (by decide))))⟩
theorem d2_0 : decode jdk_38_method_2_code 0 = .ok (.aload_n 0, 1) := by decide +kernel
theorem d2_1 : decode jdk_38_method_2_code 1 = .ok (.invokespecial 1, 3) := by decide +kernel
theorem d2_4 : decode jdk_38_method_2_code 4 = .ok (.aload_n 0, 1) := by decide +kernel
theorem d2_5 : decode jdk_38_method_2_code 5 = .ok (.getstatic 39, 3) := by decide +kernel
theorem d2_8 : decode jdk_38_method_2_code 8 = .ok (.putfield 9, 3) := by decide +kernel
theorem d2_11 : decode jdk_38_method_2_code 11 = .ok (.return_, 1) := by decide +kernel
theorem pn_2 : plainFor (⟨"java/util/ArrayList", "<init>", "()V"⟩ : MethodName) = true := plainFor_of_name (by first | (simp [plainName, overriddenIn]; done) | decide +kernel)
set_option maxRecDepth 65536 in
set_option maxHeartbeats 40000000 in
theorem rm2 (l : Launch) (Z : State) (a0 : Array Value) (hw : ∀ d ∈ tables_1, d.before a0 Z = true) (ws : List Jvm.Cond) (a1 : Addr) (de : Addr) (h0 : Heap) (n0 : Nat) (Z0 : n0 ≤ h0.size) (O0 : Old Z n0 h0) (E1 : Exa Z h0 a1 "java/util/ArrayList") (F_0 : Fld Z h0 a1 "java/util/AbstractList" "modCount" "I" (.int (0 : Int32))) (F_1 : Fld Z h0 a1 "java/util/ArrayList" "elementData" "[Ljava/lang/Object;" .null) (g1 : n0 ≤ a1) (SDE : Sta Z Z.heap "java/util/ArrayList" "DEFAULTCAPACITY_EMPTY_ELEMENTDATA" "[Ljava/lang/Object;" (.ref de)) :
    MetFree l (⟨"java/util/ArrayList", "<init>", "()V"⟩ : MethodName) (head1 (Jvm.Cond.code (⟨"java/util/ArrayList", "<init>", "()V"⟩ : MethodName) jdk_38_method_2_code 1 none :: ws) ({ frames := 3, cells := 0, slots := 0, locals := 36 } : Room)) (fun a U => a = #[(.ref a1)] ∧ Z.Warmed39 U.vm ∧ U.heap = h0) (fun _ _ _ _ _ => True) (fun _ U o U' => ∃ v L, o = .returned v ∧ QC2 Z a1 de h0 n0 v U'.heap L ∧ FrameEnd U o U' L ({ frames := 3, cells := 0, slots := 0, locals := 36 } : Room).cells ({ frames := 3, cells := 0, slots := 0, locals := 36 } : Room).slots) := by
  refine MetFree.of_bodySF pn_2 hisR ?_
  intro p e s m args below meth c s₁ Bd hml0 hP hK
  obtain ⟨rfl, hZ, hh⟩ := hP
  have hx := Bd.exec
  have hby := Bd.bytes
  have hml : c.maxLocals = 1 := hml0
  have hown : s.vm.findClass "java/util/ArrayList" = some m.cls := findClass_of_methodNamed Bd.named
  have hnm := (name_of_methodNamed Bd.named Bd.method).1
  have hlk : meth.locks = false := BodyLoose.notSynchronized Bd
  have X0 : Stand p l e ({ frames := 3, cells := 0, slots := 0, locals := 36 } : Room) s m #[(.ref a1)] below meth c s₁ [] 0 0 := Stand.of_body Bd
  have e0 : s₁.heap = h0 := by rw [← hh, Bd.state]; rfl
  have N0 := Fr.nil n0
  show own_Fin p e below (own_P (QC2 Z a1 de h0 n0) s ({ frames := 3, cells := 0, slots := 0, locals := 36 } : Room).cells ({ frames := 3, cells := 0, slots := 0, locals := 36 } : Room).slots) (s₁.setTop (entryFrame m #[(.ref a1)] 1))
  rw [show entryFrame m #[(.ref a1)] 1 = mkF m 0 #[.val (.ref a1)] [] from by first | (simp [entryFrame, mkF, argsToLocals, Value.category]; done) | rfl]
  have kp0 := Keep.refl h0 [a1]
  refine own_go ?_ (fun tq kt => XS.aloadN X0.here hx rfl (hb hby d2_0) rfl rfl kt)
  show own_Fin _ _ _ _ (s₁.setTop (mkF m 1 #[.val (.ref a1)] [(.ref a1)]))
  obtain ⟨_, _, ⟨T46, L46, k46, n46⟩, -, X46, ⟨Lc46, hQ46, l46, y46, z46⟩, st46⟩ := X0.specialBack hx (y := (⟨"java/util/AbstractList", "<init>", "()V"⟩ : MethodName)) rfl hown (mvT hZ (hw _ (List.mem_of_getElem? (i := 13) rfl))) (mvT hZ (hw _ (List.mem_of_getElem? (i := 14) rfl))) (mvT hZ (hw _ (List.mem_of_getElem? (i := 18) rfl))) (by decide) (backOf (W := 0) (rm3 l Z a0 hw [] a1  h0 n0 Z0  E1 F_0 F_1 g1  ) hZ (hw _ (List.mem_of_getElem? (i := 18) rfl)) (hw _ (List.mem_of_getElem? (i := 17) rfl)) (by decide) (by decide)) (g := (mkF m 1 #[.val (.ref a1)] [(.ref a1)])) rfl (by rw [hml]; rfl) (Steps.refl _) (a := a1) (argsL := []) (rest := []) (lenOf own_pd0 rfl) rfl (by show 2 * 0 + _ ≤ _; exact Nat.le_of_eq rfl) (hb hby d2_1) (fun _ _ => ⟨rfl, e0, (by decide : 0 + 0 ≤ _), (by decide : 0 + 0 ≤ _)⟩)
  dsimp only [Pt.U, Pt.locs, Pt.cells, Pt.slots] at X46 l46 y46 z46 st46 hQ46
  subst l46 y46 z46
  obtain ⟨rfl, N46q, K46, F46_0, F46_1⟩ := hQ46
  have N46 := Fr.app N0 N46q
  obtain ⟨h46, e46⟩ : ∃ z, z = T46.heap := ⟨_, rfl⟩
  have e46' := e46.symm
  rw [← e46] at K46 F46_0 F46_1
  have zs47 := Nat.le_trans Z0 K46.1
  have od47 := O0.keep K46 (allS g1 all0)
  have kp47 : Keep h0 h46 [a1] := kp0.trans K46 (allS (Or.inl (List.mem_of_getElem? (i := 0) rfl)) all0)
  refine own_go ?_ (fun tq kt => st46.trans kt)
  show own_Fin _ _ _ _ (T46.setTop (mkF m 4 #[.val (.ref a1)] []))
  refine own_go ?_ (fun tq kt => XS.aloadN X46.here hx rfl (hb hby d2_4) rfl rfl kt)
  show own_Fin _ _ _ _ (T46.setTop (mkF m 5 #[.val (.ref a1)] [(.ref a1)]))
  obtain ⟨T48, X48, e48, st48⟩ := getS2 X46 hx hZ hown (host := "") (Or.inl (hw _ (List.mem_of_getElem? (i := 30) rfl))) Via.refl e46' (SDE.ext od47.2) (g := (mkF m 5 #[.val (.ref a1)] [(.ref a1)])) rfl (hb hby d2_5)
  refine own_go ?_ (fun tq kt => st48 _ kt)
  show own_Fin _ _ _ _ (T48.setTop (mkF m 8 #[.val (.ref a1)] [(.ref de), (.ref a1)]))
  obtain ⟨T49, h49, X49, e49, W49, st49⟩ := putF X48 hx hZ hown (host := "") (Or.inl (hw _ (List.mem_of_getElem? (i := 31) rfl))) Via.refl e48 F46_1 (E1.keep K46) (Or.inl (hw _ (List.mem_of_getElem? (i := 32) rfl))) (hw _ (List.mem_of_getElem? (i := 8) rfl)) (ty := (.array (.object "java/lang/Object"))) (by decide) rfl rfl (g := (mkF m 8 #[.val (.ref a1)] [(.ref de), (.ref a1)])) rfl rfl (hb hby d2_8)
  have zs50 := Nat.le_trans zs47 (Keep.of_wr W49).1
  have od50 := od47.wr W49 g1
  have kp50 : Keep h0 h49 [a1] := kp47.wr W49 (Or.inl (List.mem_of_getElem? (i := 0) rfl))
  have Fw49 := (F46_1).same W49
  have N49 := Fr.snoc X49 N46 g1
  refine own_go ?_ (fun tq kt => st49 _ kt)
  show own_Fin _ _ _ _ (T49.setTop (mkF m 11 #[.val (.ref a1)] []))
  refine own_retV X49 hx Bd.returns (hb hby d2_11) hlk ?_ (by decide) (by decide)
  show QC2 Z a1 de h0 n0 _ T49.heap _
  rw [e49]
  exact ⟨rfl, N49, kp50, (F46_0.other W49 (Or.inr (slot_ne (Or.inl (hw _ (List.mem_of_getElem? (i := 29) rfl))) (Or.inl (hw _ (List.mem_of_getElem? (i := 32) rfl))) (by decide) (t := .int) (t' := (.array (.object "java/lang/Object"))) (by decide) (by decide)))), Fw49⟩
theorem d7_0 : decode jdk_43_method_3_code 0 = .ok (.iload_n 0, 1) := by decide +kernel
theorem d7_1 : decode jdk_43_method_3_code 1 = .ok (.sipush 255, 3) := by decide +kernel
theorem d7_4 : decode jdk_43_method_3_code 4 = .ok (.if_icmp .gt 7, 3) := by decide +kernel
theorem d7_7 : decode jdk_43_method_3_code 7 = .ok (.iconst 1, 1) := by decide +kernel
theorem d7_8 : decode jdk_43_method_3_code 8 = .ok (.goto 4, 3) := by decide +kernel
theorem d7_11 : decode jdk_43_method_3_code 11 = .ok (.iconst 0, 1) := by decide +kernel
theorem d7_12 : decode jdk_43_method_3_code 12 = .ok (.ireturn, 1) := by decide +kernel
theorem pn_7 : plainFor (⟨"java/lang/StringLatin1", "canEncode", "(C)Z"⟩ : MethodName) = true := plainFor_of_name (by first | (simp [plainName, overriddenIn]; done) | decide +kernel)
set_option maxRecDepth 65536 in
set_option maxHeartbeats 40000000 in
theorem rm7 (l : Launch) (Z : State) (a0 : Array Value) (hw : ∀ d ∈ tables_1, d.before a0 Z = true) (ws : List Jvm.Cond) (p1 : Int32)  (h0 : Heap) (n0 : Nat) (Z0 : n0 ≤ h0.size) (hp : ¬ (255 : Int32) < p1) :
    MetFree l (⟨"java/lang/StringLatin1", "canEncode", "(C)Z"⟩ : MethodName) (head1 (Jvm.Cond.code (⟨"java/lang/StringLatin1", "canEncode", "(C)Z"⟩ : MethodName) jdk_43_method_3_code 1 (some .boolean) :: ws) ({ frames := 0, cells := 0, slots := 0, locals := 0 } : Room)) (fun a U => a = #[(.int p1)] ∧ Z.Warmed39 U.vm ∧ U.heap = h0) (fun _ _ _ _ _ => True) (fun _ U o U' => ∃ v L, o = .returned v ∧ QI 1 h0 n0 v U'.heap L ∧ FrameEnd U o U' L ({ frames := 0, cells := 0, slots := 0, locals := 0 } : Room).cells ({ frames := 0, cells := 0, slots := 0, locals := 0 } : Room).slots) := by
  refine MetFree.of_bodySF pn_7 hisR ?_
  intro p e s m args below meth c s₁ Bd hml0 hP hK
  obtain ⟨rfl, hZ, hh⟩ := hP
  have hx := Bd.exec
  have hby := Bd.bytes
  have hml : c.maxLocals = 1 := hml0
  have hown : s.vm.findClass "java/lang/StringLatin1" = some m.cls := findClass_of_methodNamed Bd.named
  have hnm := (name_of_methodNamed Bd.named Bd.method).1
  have hlk : meth.locks = false := BodyLoose.notSynchronized Bd
  have X0 : Stand p l e ({ frames := 0, cells := 0, slots := 0, locals := 0 } : Room) s m #[(.int p1)] below meth c s₁ [] 0 0 := Stand.of_body Bd
  have e0 : s₁.heap = h0 := by rw [← hh, Bd.state]; rfl
  have N0 := Fr.nil n0
  show own_Fin p e below (own_P (QI 1 h0 n0) s ({ frames := 0, cells := 0, slots := 0, locals := 0 } : Room).cells ({ frames := 0, cells := 0, slots := 0, locals := 0 } : Room).slots) (s₁.setTop (entryFrame m #[(.int p1)] 1))
  rw [show entryFrame m #[(.int p1)] 1 = mkF m 0 #[.val (.int p1)] [] from by first | (simp [entryFrame, mkF, argsToLocals, Value.category]; done) | rfl]
  refine own_go ?_ (fun tq kt => XS.iloadN X0.here hx rfl (hb hby d7_0) rfl kt)
  show own_Fin _ _ _ _ (s₁.setTop (mkF m 1 #[.val (.int p1)] [(.int p1)]))
  refine own_go ?_ (fun tq kt => XS.sipush X0.here hx rfl (hb hby d7_1) kt)
  show own_Fin _ _ _ _ (s₁.setTop (mkF m 4 #[.val (.int p1)] [(.int (255 : Int32)), (.int p1)]))
  refine own_go ?_ (fun tq kt => XS.icmpNo X0.here hx rfl (hb hby d7_4) rfl (flt (hp : ¬ ((255 : Int32) < p1))).2.2.1 kt)
  show own_Fin _ _ _ _ (s₁.setTop (mkF m 7 #[.val (.int p1)] []))
  refine own_go ?_ (fun tq kt => XS.iconst X0.here hx rfl (hb hby d7_7) kt)
  show own_Fin _ _ _ _ (s₁.setTop (mkF m 8 #[.val (.int p1)] [(.int (1 : Int32))]))
  refine own_go ?_ (fun tq kt => XS.goto X0.here hx rfl (pc0 := 8) (pc' := 12) rfl (hb hby d7_8) (by decide) (by decide) kt)
  show own_Fin _ _ _ _ (s₁.setTop (mkF m 12 #[.val (.int p1)] [(.int (1 : Int32))]))
  refine own_retN X0 hx (t := .boolean) Bd.returns (by simp) (hb hby d7_12) hlk ?_ (by decide) (by decide)
  show QI 1 h0 n0 _ s₁.heap _
  rw [e0]
  exact ⟨rfl, N0, rfl⟩
theorem d8_0 : decode jdk_43_method_46_code 0 = .ok (.iconst 1, 1) := by decide +kernel
theorem d8_1 : decode jdk_43_method_46_code 1 = .ok (.newarray .byte, 2) := by decide +kernel
theorem d8_3 : decode jdk_43_method_46_code 3 = .ok (.dup, 1) := by decide +kernel
theorem d8_4 : decode jdk_43_method_46_code 4 = .ok (.iconst 0, 1) := by decide +kernel
theorem d8_5 : decode jdk_43_method_46_code 5 = .ok (.iload_n 0, 1) := by decide +kernel
theorem d8_6 : decode jdk_43_method_46_code 6 = .ok (.i2b, 1) := by decide +kernel
theorem d8_7 : decode jdk_43_method_46_code 7 = .ok (.bastore, 1) := by decide +kernel
theorem d8_8 : decode jdk_43_method_46_code 8 = .ok (.areturn, 1) := by decide +kernel
theorem pn_8 : plainFor (⟨"java/lang/StringLatin1", "toBytes", "(C)[B"⟩ : MethodName) = true := plainFor_of_name (by first | (simp [plainName, overriddenIn]; done) | decide +kernel)
set_option maxRecDepth 65536 in
set_option maxHeartbeats 40000000 in
theorem rm8 (l : Launch) (Z : State) (a0 : Array Value) (hw : ∀ d ∈ tables_1, d.before a0 Z = true) (ws : List Jvm.Cond) (p1 : Int32)  (h0 : Heap) (n0 : Nat) (Z0 : n0 ≤ h0.size) :
    MetFree l (⟨"java/lang/StringLatin1", "toBytes", "(C)[B"⟩ : MethodName) (head1 (Jvm.Cond.code (⟨"java/lang/StringLatin1", "toBytes", "(C)[B"⟩ : MethodName) jdk_43_method_46_code 1 (some (.array .byte)) :: ws) ({ frames := 0, cells := 1, slots := 1, locals := 0 } : Room)) (fun a U => a = #[(.int p1)] ∧ Z.Warmed39 U.vm ∧ U.heap = h0) (fun _ _ _ _ _ => True) (fun _ U o U' => ∃ v L, o = .returned v ∧ QB Z p1 h0 n0 v U'.heap L ∧ FrameEnd U o U' L ({ frames := 0, cells := 1, slots := 1, locals := 0 } : Room).cells ({ frames := 0, cells := 1, slots := 1, locals := 0 } : Room).slots) := by
  refine MetFree.of_bodySF pn_8 hisR ?_
  intro p e s m args below meth c s₁ Bd hml0 hP hK
  obtain ⟨rfl, hZ, hh⟩ := hP
  have hx := Bd.exec
  have hby := Bd.bytes
  have hml : c.maxLocals = 1 := hml0
  have hown : s.vm.findClass "java/lang/StringLatin1" = some m.cls := findClass_of_methodNamed Bd.named
  have hnm := (name_of_methodNamed Bd.named Bd.method).1
  have hlk : meth.locks = false := BodyLoose.notSynchronized Bd
  have X0 : Stand p l e ({ frames := 0, cells := 1, slots := 1, locals := 0 } : Room) s m #[(.int p1)] below meth c s₁ [] 0 0 := Stand.of_body Bd
  have e0 : s₁.heap = h0 := by rw [← hh, Bd.state]; rfl
  have N0 := Fr.nil n0
  show own_Fin p e below (own_P (QB Z p1 h0 n0) s ({ frames := 0, cells := 1, slots := 1, locals := 0 } : Room).cells ({ frames := 0, cells := 1, slots := 1, locals := 0 } : Room).slots) (s₁.setTop (entryFrame m #[(.int p1)] 1))
  rw [show entryFrame m #[(.int p1)] 1 = mkF m 0 #[.val (.int p1)] [] from by first | (simp [entryFrame, mkF, argsToLocals, Value.category]; done) | rfl]
  have kp0 := Keep.refl h0 []
  refine own_go ?_ (fun tq kt => XS.iconst X0.here hx rfl (hb hby d8_0) kt)
  show own_Fin _ _ _ _ (s₁.setTop (mkF m 1 #[.val (.int p1)] [(.int (1 : Int32))]))
  obtain ⟨T56, h56, k56, X56, e56, E56, A56, st56⟩ := newP X0 hx hZ (hw _ (List.mem_of_getElem? (i := 47) rfl)) e0 (g := (mkF m 1 #[.val (.int p1)] [(.int (1 : Int32))])) rfl (hb hby d8_1) rfl (by decide) (cap := 1) (by decide) (by decide) (by decide) (by decide)
  obtain ⟨b56, g56⟩ : ∃ z, z = h0.size := ⟨_, rfl⟩
  rw [← g56] at A56 st56
  have V56 : Arv Z h56 b56 k56 .byte (1 : Int32) [(.int (0 : Int32))] (.int (0 : Int32)) := (Arv.new A56 (by decide)).pad (pad_rep [] (.int (0 : Int32)) 1)
  have zs57 := Nat.le_trans Z0 E56.1
  have kp57 : Keep h0 h56 [] := kp0.ext E56
  have g_b56 : n0 ≤ b56 := Nat.le_trans Z0 (Nat.le_of_eq g56.symm)
  have sz_b56 : h0.size ≤ b56 := Nat.le_trans kp0.1 (Nat.le_of_eq g56.symm)
  refine own_go ?_ (fun tq kt => st56 _ kt)
  show own_Fin _ _ _ _ (T56.setTop (mkF m 3 #[.val (.int p1)] [(.ref b56)]))
  refine own_go ?_ (fun tq kt => XS.dup X56.here hx rfl (hb hby d8_3) rfl rfl kt)
  show own_Fin _ _ _ _ (T56.setTop (mkF m 4 #[.val (.int p1)] [(.ref b56), (.ref b56)]))
  refine own_go ?_ (fun tq kt => XS.iconst X56.here hx rfl (hb hby d8_4) kt)
  show own_Fin _ _ _ _ (T56.setTop (mkF m 5 #[.val (.int p1)] [(.int (0 : Int32)), (.ref b56), (.ref b56)]))
  refine own_go ?_ (fun tq kt => XS.iloadN X56.here hx rfl (hb hby d8_5) rfl kt)
  show own_Fin _ _ _ _ (T56.setTop (mkF m 6 #[.val (.int p1)] [(.int p1), (.int (0 : Int32)), (.ref b56), (.ref b56)]))
  refine own_go ?_ (fun tq kt => XS.i2b X56.here hx rfl (hb hby d8_6) rfl kt)
  show own_Fin _ _ _ _ (T56.setTop (mkF m 7 #[.val (.int p1)] [(.int (p1.toInt8.toInt32)), (.int (0 : Int32)), (.ref b56), (.ref b56)]))
  obtain ⟨cl58, Ar58, q58, S58, M58, H58, G58⟩ := id V56
  obtain ⟨T59, h59, X59, e59, W59, st59⟩ := stB X56 hx hZ e56 Ar58 (j := (0 : Int32)) (inb_of S58 ⟨by decide, by decide⟩) (g := (mkF m 7 #[.val (.int p1)] [(.int (p1.toInt8.toInt32)), (.int (0 : Int32)), (.ref b56), (.ref b56)])) rfl rfl (hb hby d8_7)
  have zs60 := Nat.le_trans zs57 (Keep.of_wr W59).1
  have kp60 : Keep h0 h59 [] := kp57.wr W59 (Or.inr sz_b56)
  have V59 : Arv Z h59 b56 k56 .byte (1 : Int32) [(.int (nar .byte (p1.toInt8.toInt32)))] (.int (0 : Int32)) := Arv.set Ar58 q58 S58 M58 H58 G58 (fits_nar_byte _) W59 0 rfl (Nat.le_of_ble_eq_true rfl)
  have N59 := Fr.snoc X59 N0 g_b56
  refine own_go ?_ (fun tq kt => st59 _ kt)
  show own_Fin _ _ _ _ (T59.setTop (mkF m 8 #[.val (.int p1)] [(.ref b56)]))
  refine own_retO X59 hx (t := (.array .byte)) Bd.returns rfl (Or.inr (Or.inr (Or.inr (Or.inr ⟨rfl, rfl, rfl⟩)))) (hb hby d8_8) hlk ?_ (by decide) (by decide)
  show QB Z p1 h0 n0 _ T59.heap _
  rw [e59]
  exact ⟨_, _, rfl, N59, own_extK kp60, Nat.le_of_eq g56.symm, V59⟩
theorem d9_0 : decode jdk_42_method_151_code 0 = .ok (.aload_n 0, 1) := by decide +kernel
theorem d9_1 : decode jdk_42_method_151_code 1 = .ok (.invokespecial 1, 3) := by decide +kernel
theorem d9_4 : decode jdk_42_method_151_code 4 = .ok (.aload_n 0, 1) := by decide +kernel
theorem d9_5 : decode jdk_42_method_151_code 5 = .ok (.aload_n 1, 1) := by decide +kernel
theorem d9_6 : decode jdk_42_method_151_code 6 = .ok (.putfield 9, 3) := by decide +kernel
theorem d9_9 : decode jdk_42_method_151_code 9 = .ok (.aload_n 0, 1) := by decide +kernel
theorem d9_10 : decode jdk_42_method_151_code 10 = .ok (.iload_n 2, 1) := by decide +kernel
theorem d9_11 : decode jdk_42_method_151_code 11 = .ok (.putfield 15, 3) := by decide +kernel
theorem d9_14 : decode jdk_42_method_151_code 14 = .ok (.return_, 1) := by decide +kernel
theorem pn_9 : plainFor (⟨"java/lang/String", "<init>", "([BB)V"⟩ : MethodName) = true := plainFor_of_name (by first | (simp [plainName, overriddenIn]; done) | decide +kernel)
set_option maxRecDepth 65536 in
set_option maxHeartbeats 40000000 in
theorem rm9 (l : Launch) (Z : State) (a0 : Array Value) (hw : ∀ d ∈ tables_1, d.before a0 Z = true) (ws : List Jvm.Cond) (a1 : Addr) (a2 : Addr) (p3 : Int32)  (h0 : Heap) (n0 : Nat) (Z0 : n0 ≤ h0.size) (E1 : Exa Z h0 a1 "java/lang/String") (F_0 : Fld Z h0 a1 "java/lang/String" "value" "[B" .null) (F_1 : Fld Z h0 a1 "java/lang/String" "coder" "B" (.int (0 : Int32))) (g1 : n0 ≤ a1) :
    MetFree l (⟨"java/lang/String", "<init>", "([BB)V"⟩ : MethodName) (head1 (Jvm.Cond.code (⟨"java/lang/String", "<init>", "([BB)V"⟩ : MethodName) jdk_42_method_151_code 3 none :: ws) ({ frames := 1, cells := 0, slots := 0, locals := 12 } : Room)) (fun a U => a = #[(.ref a1), (.ref a2), (.int p3)] ∧ Z.Warmed39 U.vm ∧ U.heap = h0) (fun _ _ _ _ _ => True) (fun _ U o U' => ∃ v L, o = .returned v ∧ QC9 Z a1 a2 p3 h0 n0 v U'.heap L ∧ FrameEnd U o U' L ({ frames := 1, cells := 0, slots := 0, locals := 12 } : Room).cells ({ frames := 1, cells := 0, slots := 0, locals := 12 } : Room).slots) := by
  refine MetFree.of_bodySF pn_9 hisR ?_
  intro p e s m args below meth c s₁ Bd hml0 hP hK
  obtain ⟨rfl, hZ, hh⟩ := hP
  have hx := Bd.exec
  have hby := Bd.bytes
  have hml : c.maxLocals = 3 := hml0
  have hown : s.vm.findClass "java/lang/String" = some m.cls := findClass_of_methodNamed Bd.named
  have hnm := (name_of_methodNamed Bd.named Bd.method).1
  have hlk : meth.locks = false := BodyLoose.notSynchronized Bd
  have X0 : Stand p l e ({ frames := 1, cells := 0, slots := 0, locals := 12 } : Room) s m #[(.ref a1), (.ref a2), (.int p3)] below meth c s₁ [] 0 0 := Stand.of_body Bd
  have e0 : s₁.heap = h0 := by rw [← hh, Bd.state]; rfl
  have N0 := Fr.nil n0
  show own_Fin p e below (own_P (QC9 Z a1 a2 p3 h0 n0) s ({ frames := 1, cells := 0, slots := 0, locals := 12 } : Room).cells ({ frames := 1, cells := 0, slots := 0, locals := 12 } : Room).slots) (s₁.setTop (entryFrame m #[(.ref a1), (.ref a2), (.int p3)] 3))
  rw [show entryFrame m #[(.ref a1), (.ref a2), (.int p3)] 3 = mkF m 0 #[.val (.ref a1), .val (.ref a2), .val (.int p3)] [] from by first | (simp [entryFrame, mkF, argsToLocals, Value.category]; done) | rfl]
  have kp0 := Keep.refl h0 [a1]
  refine own_go ?_ (fun tq kt => XS.aloadN X0.here hx rfl (hb hby d9_0) rfl rfl kt)
  show own_Fin _ _ _ _ (s₁.setTop (mkF m 1 #[.val (.ref a1), .val (.ref a2), .val (.int p3)] [(.ref a1)]))
  obtain ⟨T66, X66, e66, st66⟩ := initO X0 hx hZ hown (hw _ (List.mem_of_getElem? (i := 52) rfl)) (hw _ (List.mem_of_getElem? (i := 26) rfl)) (hw _ (List.mem_of_getElem? (i := 27) rfl)) e0 (g := (mkF m 1 #[.val (.ref a1), .val (.ref a2), .val (.int p3)] [(.ref a1)])) rfl (by rw [hml]; rfl) rfl (hb hby d9_1) (by decide) (W := 0) (by show 2 * 0 + _ ≤ _; exact Nat.le_of_eq rfl) (by decide)
  refine own_go ?_ (fun tq kt => st66 _ kt)
  show own_Fin _ _ _ _ (T66.setTop (mkF m 4 #[.val (.ref a1), .val (.ref a2), .val (.int p3)] []))
  refine own_go ?_ (fun tq kt => XS.aloadN X66.here hx rfl (hb hby d9_4) rfl rfl kt)
  show own_Fin _ _ _ _ (T66.setTop (mkF m 5 #[.val (.ref a1), .val (.ref a2), .val (.int p3)] [(.ref a1)]))
  refine own_go ?_ (fun tq kt => XS.aloadN X66.here hx rfl (hb hby d9_5) rfl rfl kt)
  show own_Fin _ _ _ _ (T66.setTop (mkF m 6 #[.val (.ref a1), .val (.ref a2), .val (.int p3)] [(.ref a2), (.ref a1)]))
  obtain ⟨T67, h67, X67, e67, W67, st67⟩ := putF X66 hx hZ hown (host := "") (Or.inl (hw _ (List.mem_of_getElem? (i := 53) rfl))) Via.refl e66 F_0 E1 (Or.inr ⟨(hw _ (List.mem_of_getElem? (i := 54) rfl)), rfl, hnm⟩) (hw _ (List.mem_of_getElem? (i := 43) rfl)) (ty := (.array .byte)) (by decide) rfl rfl (g := (mkF m 6 #[.val (.ref a1), .val (.ref a2), .val (.int p3)] [(.ref a2), (.ref a1)])) rfl rfl (hb hby d9_6)
  have zs68 := Nat.le_trans Z0 (Keep.of_wr W67).1
  have kp68 : Keep h0 h67 [a1] := kp0.wr W67 (Or.inl (List.mem_of_getElem? (i := 0) rfl))
  have Fw67 := (F_0).same W67
  have N67 := Fr.snoc X67 N0 g1
  refine own_go ?_ (fun tq kt => st67 _ kt)
  show own_Fin _ _ _ _ (T67.setTop (mkF m 9 #[.val (.ref a1), .val (.ref a2), .val (.int p3)] []))
  refine own_go ?_ (fun tq kt => XS.aloadN X67.here hx rfl (hb hby d9_9) rfl rfl kt)
  show own_Fin _ _ _ _ (T67.setTop (mkF m 10 #[.val (.ref a1), .val (.ref a2), .val (.int p3)] [(.ref a1)]))
  refine own_go ?_ (fun tq kt => XS.iloadN X67.here hx rfl (hb hby d9_10) rfl kt)
  show own_Fin _ _ _ _ (T67.setTop (mkF m 11 #[.val (.ref a1), .val (.ref a2), .val (.int p3)] [(.int p3), (.ref a1)]))
  obtain ⟨T69, h69, X69, e69, W69, st69⟩ := putFN X67 hx hZ hown (hw _ (List.mem_of_getElem? (i := 55) rfl)) Via.refl e67 (F_1.other W67 (Or.inr (slot_ne (Or.inr (hw _ (List.mem_of_getElem? (i := 56) rfl))) (Or.inr (hw _ (List.mem_of_getElem? (i := 54) rfl))) (by decide) (t := .byte) (t' := (.array .byte)) (by decide) (by decide)))) (E1.wr W67) (Or.inr ⟨(hw _ (List.mem_of_getElem? (i := 56) rfl)), rfl, hnm⟩) (hw _ (List.mem_of_getElem? (i := 43) rfl)) (ty := .byte) (v' := (.int (nar .byte p3))) (by decide) rfl (fits_nar_byte _) (g := (mkF m 11 #[.val (.ref a1), .val (.ref a2), .val (.int p3)] [(.int p3), (.ref a1)])) rfl rfl (hb hby d9_11)
  have zs70 := Nat.le_trans zs68 (Keep.of_wr W69).1
  have kp70 : Keep h0 h69 [a1] := kp68.wr W69 (Or.inl (List.mem_of_getElem? (i := 0) rfl))
  have Fw69 := ((F_1.other W67 (Or.inr (slot_ne (Or.inr (hw _ (List.mem_of_getElem? (i := 56) rfl))) (Or.inr (hw _ (List.mem_of_getElem? (i := 54) rfl))) (by decide) (t := .byte) (t' := (.array .byte)) (by decide) (by decide))))).same W69
  have N69 := Fr.snoc X69 N67 g1
  refine own_go ?_ (fun tq kt => st69 _ kt)
  show own_Fin _ _ _ _ (T69.setTop (mkF m 14 #[.val (.ref a1), .val (.ref a2), .val (.int p3)] []))
  refine own_retV X69 hx Bd.returns (hb hby d9_14) hlk ?_ (by decide) (by decide)
  show QC9 Z a1 a2 p3 h0 n0 _ T69.heap _
  rw [e69]
  exact ⟨rfl, N69, kp70, (Fw67.other W69 (Or.inr (slot_ne (Or.inr (hw _ (List.mem_of_getElem? (i := 54) rfl))) (Or.inr (hw _ (List.mem_of_getElem? (i := 56) rfl))) (by decide) (t := (.array .byte)) (t' := .byte) (by decide) (by decide)))), Fw69⟩
theorem d6_0 : decode jdk_42_method_139_code 0 = .ok (.getstatic 38, 3) := by decide +kernel
theorem d6_3 : decode jdk_42_method_139_code 3 = .ok (.ifCond .eq 23, 3) := by decide +kernel
theorem d6_6 : decode jdk_42_method_139_code 6 = .ok (.iload_n 0, 1) := by decide +kernel
theorem d6_7 : decode jdk_42_method_139_code 7 = .ok (.invokestatic 1015, 3) := by decide +kernel
theorem d6_10 : decode jdk_42_method_139_code 10 = .ok (.ifCond .eq 16, 3) := by decide +kernel
theorem d6_13 : decode jdk_42_method_139_code 13 = .ok (.new 10, 3) := by decide +kernel
theorem d6_16 : decode jdk_42_method_139_code 16 = .ok (.dup, 1) := by decide +kernel
theorem d6_17 : decode jdk_42_method_139_code 17 = .ok (.iload_n 0, 1) := by decide +kernel
theorem d6_18 : decode jdk_42_method_139_code 18 = .ok (.invokestatic 1018, 3) := by decide +kernel
theorem d6_21 : decode jdk_42_method_139_code 21 = .ok (.iconst 0, 1) := by decide +kernel
theorem d6_22 : decode jdk_42_method_139_code 22 = .ok (.invokespecial 209, 3) := by decide +kernel
theorem d6_25 : decode jdk_42_method_139_code 25 = .ok (.areturn, 1) := by decide +kernel
theorem d6_26 : decode jdk_42_method_139_code 26 = .ok (.new 10, 3) := by decide +kernel
theorem d6_29 : decode jdk_42_method_139_code 29 = .ok (.dup, 1) := by decide +kernel
theorem d6_30 : decode jdk_42_method_139_code 30 = .ok (.iload_n 0, 1) := by decide +kernel
theorem d6_31 : decode jdk_42_method_139_code 31 = .ok (.invokestatic 1021, 3) := by decide +kernel
theorem d6_34 : decode jdk_42_method_139_code 34 = .ok (.iconst 1, 1) := by decide +kernel
theorem d6_35 : decode jdk_42_method_139_code 35 = .ok (.invokespecial 209, 3) := by decide +kernel
theorem d6_38 : decode jdk_42_method_139_code 38 = .ok (.areturn, 1) := by decide +kernel
theorem pn_6 : plainFor (⟨"java/lang/String", "valueOf", "(C)Ljava/lang/String;"⟩ : MethodName) = true := plainFor_of_name (by first | (simp [plainName, overriddenIn]; done) | decide +kernel)
set_option maxRecDepth 65536 in
set_option maxHeartbeats 40000000 in
theorem rm6 (l : Launch) (Z : State) (a0 : Array Value) (hw : ∀ d ∈ tables_1, d.before a0 Z = true) (ws : List Jvm.Cond) (p1 : Int32) (cs0 : Int32) (h0 : Heap) (n0 : Nat) (Z0 : n0 ≤ h0.size) (O0 : Old Z n0 h0) (SCS : Sta Z Z.heap "java/lang/String" "COMPACT_STRINGS" "Z" (.int cs0)) (hcs : ¬ cs0 = 0) (hp : ¬ (255 : Int32) < p1) :
    MetFree l (⟨"java/lang/String", "valueOf", "(C)Ljava/lang/String;"⟩ : MethodName) (head1 (Jvm.Cond.code (⟨"java/lang/String", "valueOf", "(C)Ljava/lang/String;"⟩ : MethodName) jdk_42_method_139_code 1 (some (.object "java/lang/String")) :: ws) ({ frames := 2, cells := 2, slots := 5, locals := 27 } : Room)) (fun a U => a = #[(.int p1)] ∧ Z.Warmed39 U.vm ∧ U.heap = h0) (fun _ _ _ _ _ => True) (fun _ U o U' => ∃ v L, o = .returned v ∧ QVC Z p1 h0 n0 v U'.heap L ∧ FrameEnd U o U' L ({ frames := 2, cells := 2, slots := 5, locals := 27 } : Room).cells ({ frames := 2, cells := 2, slots := 5, locals := 27 } : Room).slots) := by
  refine MetFree.of_bodySF pn_6 hisR ?_
  intro p e s m args below meth c s₁ Bd hml0 hP hK
  obtain ⟨rfl, hZ, hh⟩ := hP
  have hx := Bd.exec
  have hby := Bd.bytes
  have hml : c.maxLocals = 1 := hml0
  have hown : s.vm.findClass "java/lang/String" = some m.cls := findClass_of_methodNamed Bd.named
  have hnm := (name_of_methodNamed Bd.named Bd.method).1
  have hlk : meth.locks = false := BodyLoose.notSynchronized Bd
  have X0 : Stand p l e ({ frames := 2, cells := 2, slots := 5, locals := 27 } : Room) s m #[(.int p1)] below meth c s₁ [] 0 0 := Stand.of_body Bd
  have e0 : s₁.heap = h0 := by rw [← hh, Bd.state]; rfl
  have N0 := Fr.nil n0
  show own_Fin p e below (own_P (QVC Z p1 h0 n0) s ({ frames := 2, cells := 2, slots := 5, locals := 27 } : Room).cells ({ frames := 2, cells := 2, slots := 5, locals := 27 } : Room).slots) (s₁.setTop (entryFrame m #[(.int p1)] 1))
  rw [show entryFrame m #[(.int p1)] 1 = mkF m 0 #[.val (.int p1)] [] from by first | (simp [entryFrame, mkF, argsToLocals, Value.category]; done) | rfl]
  have kp0 := Keep.refl h0 []
  obtain ⟨T79, X79, e79, st79⟩ := getS2 X0 hx hZ hown (host := "") (Or.inl (hw _ (List.mem_of_getElem? (i := 37) rfl))) Via.refl e0 (SCS.ext O0.2) (g := (mkF m 0 #[.val (.int p1)] [])) rfl (hb hby d6_0)
  refine own_go ?_ (fun tq kt => st79 _ kt)
  show own_Fin _ _ _ _ (T79.setTop (mkF m 3 #[.val (.int p1)] [(.int cs0)]))
  refine own_go ?_ (fun tq kt => XS.ifNo X79.here hx rfl (hb hby d6_3) rfl ((if0 _ _).trans (feq (hcs : ¬ (cs0 = (0 : Int32)))).1) kt)
  show own_Fin _ _ _ _ (T79.setTop (mkF m 6 #[.val (.int p1)] []))
  refine own_go ?_ (fun tq kt => XS.iloadN X79.here hx rfl (hb hby d6_6) rfl kt)
  show own_Fin _ _ _ _ (T79.setTop (mkF m 7 #[.val (.int p1)] [(.int p1)]))
  obtain ⟨_, _, ⟨T80, L80, k80, n80⟩, -, X80, ⟨Lc80, hQ80, l80, y80, z80⟩, st80⟩ := Jvm.LawKit.callS X79 hx (y := (⟨"java/lang/StringLatin1", "canEncode", "(C)Z"⟩ : MethodName)) hown (mvT hZ (hw _ (List.mem_of_getElem? (i := 38) rfl))) (mvT hZ (hw _ (List.mem_of_getElem? (i := 39) rfl))) (mvT hZ (hw _ (List.mem_of_getElem? (i := 40) rfl))) (mvT hZ (hw _ (List.mem_of_getElem? (i := 41) rfl))) (by decide) (backOf (W := 0) (rm7 l Z a0 hw [] p1 h0 n0 Z0 hp) hZ (hw _ (List.mem_of_getElem? (i := 41) rfl)) (hw _ (List.mem_of_getElem? (i := 40) rfl)) (by decide) (by decide)) (g := (mkF m 7 #[.val (.int p1)] [(.int p1)])) rfl (by rw [hml]; rfl) (argsL := [(.int p1)]) (rest := []) (lenOf own_pd2 rfl) rfl (by show 2 * 0 + _ ≤ _; exact Nat.le_of_eq rfl) (hb hby d6_7) (fun _ _ => ⟨rfl, e79, (by decide : 0 + 0 ≤ _), (by decide : 0 + 0 ≤ _)⟩)
  dsimp only [Pt.U, Pt.locs, Pt.cells, Pt.slots] at X80 l80 y80 z80 st80 hQ80
  subst l80 y80 z80
  obtain ⟨rfl, N80q, e80⟩ := hQ80
  have N80 := Fr.app N0 N80q
  refine own_go ?_ (fun tq kt => st80 _ kt)
  show own_Fin _ _ _ _ (T80.setTop (mkF m 10 #[.val (.int p1)] [(.int (1 : Int32))]))
  refine own_go ?_ (fun tq kt => XS.ifNo X80.here hx rfl (hb hby d6_10) rfl ((if0 _ _).trans (feq ((by decide) : ¬ ((1 : Int32) = (0 : Int32)))).1) kt)
  show own_Fin _ _ _ _ (T80.setTop (mkF m 13 #[.val (.int p1)] []))
  obtain ⟨T81, h81, X81, e81, E81, A81, D81, -, st81⟩ := newO X80 hx hZ hown (hw _ (List.mem_of_getElem? (i := 42) rfl)) (hw _ (List.mem_of_getElem? (i := 43) rfl)) (hw _ (List.mem_of_getElem? (i := 35) rfl)) e80 (g := (mkF m 13 #[.val (.int p1)] [])) rfl (hb hby d6_13) (by decide) (by decide)
  obtain ⟨b81, g81⟩ : ∃ z, z = h0.size := ⟨_, rfl⟩
  rw [← g81] at A81 D81 st81
  have zs82 := Nat.le_trans Z0 E81.1
  have od82 := O0.ext E81
  have kp82 : Keep h0 h81 [] := kp0.ext E81
  have g_b81 : n0 ≤ b81 := Nat.le_trans Z0 (Nat.le_of_eq g81.symm)
  have sz_b81 : h0.size ≤ b81 := Nat.le_trans kp0.1 (Nat.le_of_eq g81.symm)
  have F81_value : Fld Z h81 b81 "java/lang/String" "value" "[B" .null := D81 (Or.inr (hw _ (List.mem_of_getElem? (i := 54) rfl))) (ty := (.array .byte)) (by decide)
  have F81_coder : Fld Z h81 b81 "java/lang/String" "coder" "B" (.int (0 : Int32)) := D81 (Or.inr (hw _ (List.mem_of_getElem? (i := 56) rfl))) (ty := .byte) (by decide)
  refine own_go ?_ (fun tq kt => st81 _ kt)
  show own_Fin _ _ _ _ (T81.setTop (mkF m 16 #[.val (.int p1)] [(.ref b81)]))
  refine own_go ?_ (fun tq kt => XS.dup X81.here hx rfl (hb hby d6_16) rfl rfl kt)
  show own_Fin _ _ _ _ (T81.setTop (mkF m 17 #[.val (.int p1)] [(.ref b81), (.ref b81)]))
  refine own_go ?_ (fun tq kt => XS.iloadN X81.here hx rfl (hb hby d6_17) rfl kt)
  show own_Fin _ _ _ _ (T81.setTop (mkF m 18 #[.val (.int p1)] [(.int p1), (.ref b81), (.ref b81)]))
  obtain ⟨_, _, ⟨T83, L83, k83, n83⟩, -, X83, ⟨Lc83, hQ83, l83, y83, z83⟩, st83⟩ := Jvm.LawKit.callS X81 hx (y := (⟨"java/lang/StringLatin1", "toBytes", "(C)[B"⟩ : MethodName)) hown (mvT hZ (hw _ (List.mem_of_getElem? (i := 44) rfl))) (mvT hZ (hw _ (List.mem_of_getElem? (i := 45) rfl))) (mvT hZ (hw _ (List.mem_of_getElem? (i := 40) rfl))) (mvT hZ (hw _ (List.mem_of_getElem? (i := 46) rfl))) (by decide) (backOf (W := 2) (rm8 l Z a0 hw [] p1 h81 n0 zs82) hZ (hw _ (List.mem_of_getElem? (i := 46) rfl)) (hw _ (List.mem_of_getElem? (i := 40) rfl)) (by decide) (by decide)) (g := (mkF m 18 #[.val (.int p1)] [(.int p1), (.ref b81), (.ref b81)])) rfl (by rw [hml]; rfl) (argsL := [(.int p1)]) (rest := [(.ref b81), (.ref b81)]) (lenOf own_pd3 rfl) rfl (by show 2 * 0 + _ ≤ _; exact Nat.le_of_eq rfl) (hb hby d6_18) (fun _ _ => ⟨rfl, e81, (by decide : 1 + 1 ≤ _), (by decide : 4 + 1 ≤ _)⟩)
  dsimp only [Pt.U, Pt.locs, Pt.cells, Pt.slots] at X83 l83 y83 z83 st83 hQ83
  subst l83 y83 z83
  obtain ⟨b83, k83, rfl, N83q, E83, lo83, V83⟩ := hQ83
  have N83 := Fr.app N80 N83q
  obtain ⟨h83, e83⟩ : ∃ z, z = T83.heap := ⟨_, rfl⟩
  have e83' := e83.symm
  rw [← e83] at E83 V83
  have zs84 := Nat.le_trans zs82 E83.1
  have od84 := od82.ext E83
  have kp84 : Keep h0 h83 [] := kp82.ext E83
  have g_b83 : n0 ≤ b83 := Nat.le_trans zs82 lo83
  have sz_b83 : h0.size ≤ b83 := Nat.le_trans kp82.1 lo83
  have ne_b81_b83 : b81 ≠ b83 := Nat.ne_of_lt (Nat.lt_of_lt_of_le (A81).lt lo83)
  refine own_go ?_ (fun tq kt => st83 _ kt)
  show own_Fin _ _ _ _ (T83.setTop (mkF m 21 #[.val (.int p1)] [(.ref b83), (.ref b81), (.ref b81)]))
  refine own_go ?_ (fun tq kt => XS.iconst X83.here hx rfl (hb hby d6_21) kt)
  show own_Fin _ _ _ _ (T83.setTop (mkF m 22 #[.val (.int p1)] [(.int (0 : Int32)), (.ref b83), (.ref b81), (.ref b81)]))
  obtain ⟨_, _, ⟨T85, L85, k85, n85⟩, -, X85, ⟨Lc85, hQ85, l85, y85, z85⟩, st85⟩ := X83.specialBack hx (y := (⟨"java/lang/String", "<init>", "([BB)V"⟩ : MethodName)) rfl hown (mvT hZ (hw _ (List.mem_of_getElem? (i := 48) rfl))) (mvT hZ (hw _ (List.mem_of_getElem? (i := 49) rfl))) (mvT hZ (hw _ (List.mem_of_getElem? (i := 51) rfl))) (by decide) (backOf (W := 1) (rm9 l Z a0 hw [] b81 b83 (0 : Int32)  h83 n0 zs84  (A81.ext E83) (F81_value.ext E83) (F81_coder.ext E83) g_b81  ) hZ (hw _ (List.mem_of_getElem? (i := 51) rfl)) (hw _ (List.mem_of_getElem? (i := 35) rfl)) (by decide) (by decide)) (g := (mkF m 22 #[.val (.int p1)] [(.int (0 : Int32)), (.ref b83), (.ref b81), (.ref b81)])) rfl (by rw [hml]; rfl) (Steps.refl _) (a := b81) (argsL := [(.ref b83), (.int (0 : Int32))]) (rest := [(.ref b81)]) (lenOf own_pd4 rfl) rfl (by show 2 * 0 + _ ≤ _; exact Nat.le_of_eq rfl) (hb hby d6_22) (fun _ _ => ⟨rfl, e83', (by decide : 2 + 0 ≤ _), (by decide : 5 + 0 ≤ _)⟩)
  dsimp only [Pt.U, Pt.locs, Pt.cells, Pt.slots] at X85 l85 y85 z85 st85 hQ85
  subst l85 y85 z85
  obtain ⟨rfl, N85q, K85, F85_0, F85_1⟩ := hQ85
  have N85 := Fr.app N83 N85q
  obtain ⟨h85, e85⟩ : ∃ z, z = T85.heap := ⟨_, rfl⟩
  have e85' := e85.symm
  rw [← e85] at K85 F85_0 F85_1
  have zs86 := Nat.le_trans zs84 K85.1
  have od86 := od84.keep K85 (allS g_b81 all0)
  have kp86 : Keep h0 h85 [] := kp84.trans K85 (allS (Or.inr sz_b81) all0)
  refine own_go ?_ (fun tq kt => st85.trans kt)
  show own_Fin _ _ _ _ (T85.setTop (mkF m 25 #[.val (.int p1)] [(.ref b81)]))
  refine own_retO X85 hx (t := (.object "java/lang/String")) Bd.returns rfl (Or.inr (Or.inr (Or.inr (Or.inr ⟨rfl, rfl, rfl⟩)))) (hb hby d6_25) hlk ?_ (by decide) (by decide)
  show QVC Z p1 h0 n0 _ T85.heap _
  rw [e85']
  exact ⟨_, _, _, rfl, N85, own_extK kp86, sz_b81, sz_b83, ((A81.ext E83).keep K85), F85_1, F85_0, (V83.keep K85 (ninS (Ne.symm ne_b81_b83) nin0))⟩
theorem d14_0 : decode jdk_119_method_1_code 0 = .ok (.aload_n 0, 1) := by decide +kernel
theorem d14_1 : decode jdk_119_method_1_code 1 = .ok (.invokespecial 1, 3) := by decide +kernel
theorem d14_4 : decode jdk_119_method_1_code 4 = .ok (.aload_n 1, 1) := by decide +kernel
theorem d14_5 : decode jdk_119_method_1_code 5 = .ok (.ifnonnull 11, 3) := by decide +kernel
theorem d14_8 : decode jdk_119_method_1_code 8 = .ok (.new 7, 3) := by decide +kernel
theorem d14_11 : decode jdk_119_method_1_code 11 = .ok (.dup, 1) := by decide +kernel
theorem d14_12 : decode jdk_119_method_1_code 12 = .ok (.invokespecial 9, 3) := by decide +kernel
theorem d14_15 : decode jdk_119_method_1_code 15 = .ok (.athrow, 1) := by decide +kernel
theorem d14_16 : decode jdk_119_method_1_code 16 = .ok (.aload_n 0, 1) := by decide +kernel
theorem d14_17 : decode jdk_119_method_1_code 17 = .ok (.aload_n 1, 1) := by decide +kernel
theorem d14_18 : decode jdk_119_method_1_code 18 = .ok (.putfield 10, 3) := by decide +kernel
theorem d14_21 : decode jdk_119_method_1_code 21 = .ok (.return_, 1) := by decide +kernel
theorem pn_14 : plainFor (⟨"java/util/Collections$UnmodifiableCollection", "<init>", "(Ljava/util/Collection;)V"⟩ : MethodName) = true := plainFor_of_name (by first | (simp [plainName, overriddenIn]; done) | decide +kernel)
set_option maxRecDepth 65536 in
set_option maxHeartbeats 40000000 in
theorem rm14 (l : Launch) (Z : State) (a0 : Array Value) (hw : ∀ d ∈ tables_1, d.before a0 Z = true) (ws : List Jvm.Cond) (a1 : Addr) (a2 : Addr)  (h0 : Heap) (n0 : Nat) (Z0 : n0 ≤ h0.size) (E1 : Exa Z h0 a1 "java/util/Collections$UnmodifiableRandomAccessList") (F_0 : Fld Z h0 a1 "java/util/Collections$UnmodifiableCollection" "c" "Ljava/util/Collection;" .null) (F_1 : Fld Z h0 a1 "java/util/Collections$UnmodifiableList" "list" "Ljava/util/List;" .null) (g1 : n0 ≤ a1) :
    MetFree l (⟨"java/util/Collections$UnmodifiableCollection", "<init>", "(Ljava/util/Collection;)V"⟩ : MethodName) (head1 (Jvm.Cond.code (⟨"java/util/Collections$UnmodifiableCollection", "<init>", "(Ljava/util/Collection;)V"⟩ : MethodName) jdk_119_method_1_code 2 none :: ws) ({ frames := 1, cells := 0, slots := 0, locals := 12 } : Room)) (fun a U => a = #[(.ref a1), (.ref a2)] ∧ Z.Warmed39 U.vm ∧ U.heap = h0) (fun _ _ _ _ _ => True) (fun _ U o U' => ∃ v L, o = .returned v ∧ QC14 Z a1 a2 h0 n0 v U'.heap L ∧ FrameEnd U o U' L ({ frames := 1, cells := 0, slots := 0, locals := 12 } : Room).cells ({ frames := 1, cells := 0, slots := 0, locals := 12 } : Room).slots) := by
  refine MetFree.of_bodySF pn_14 hisR ?_
  intro p e s m args below meth c s₁ Bd hml0 hP hK
  obtain ⟨rfl, hZ, hh⟩ := hP
  have hx := Bd.exec
  have hby := Bd.bytes
  have hml : c.maxLocals = 2 := hml0
  have hown : s.vm.findClass "java/util/Collections$UnmodifiableCollection" = some m.cls := findClass_of_methodNamed Bd.named
  have hnm := (name_of_methodNamed Bd.named Bd.method).1
  have hlk : meth.locks = false := BodyLoose.notSynchronized Bd
  have X0 : Stand p l e ({ frames := 1, cells := 0, slots := 0, locals := 12 } : Room) s m #[(.ref a1), (.ref a2)] below meth c s₁ [] 0 0 := Stand.of_body Bd
  have e0 : s₁.heap = h0 := by rw [← hh, Bd.state]; rfl
  have N0 := Fr.nil n0
  show own_Fin p e below (own_P (QC14 Z a1 a2 h0 n0) s ({ frames := 1, cells := 0, slots := 0, locals := 12 } : Room).cells ({ frames := 1, cells := 0, slots := 0, locals := 12 } : Room).slots) (s₁.setTop (entryFrame m #[(.ref a1), (.ref a2)] 2))
  rw [show entryFrame m #[(.ref a1), (.ref a2)] 2 = mkF m 0 #[.val (.ref a1), .val (.ref a2)] [] from by first | (simp [entryFrame, mkF, argsToLocals, Value.category]; done) | rfl]
  have kp0 := Keep.refl h0 [a1]
  refine own_go ?_ (fun tq kt => XS.aloadN X0.here hx rfl (hb hby d14_0) rfl rfl kt)
  show own_Fin _ _ _ _ (s₁.setTop (mkF m 1 #[.val (.ref a1), .val (.ref a2)] [(.ref a1)]))
  obtain ⟨T90, X90, e90, st90⟩ := initO X0 hx hZ hown (hw _ (List.mem_of_getElem? (i := 110) rfl)) (hw _ (List.mem_of_getElem? (i := 26) rfl)) (hw _ (List.mem_of_getElem? (i := 27) rfl)) e0 (g := (mkF m 1 #[.val (.ref a1), .val (.ref a2)] [(.ref a1)])) rfl (by rw [hml]; rfl) rfl (hb hby d14_1) (by decide) (W := 0) (by show 2 * 0 + _ ≤ _; exact Nat.le_of_eq rfl) (by decide)
  refine own_go ?_ (fun tq kt => st90 _ kt)
  show own_Fin _ _ _ _ (T90.setTop (mkF m 4 #[.val (.ref a1), .val (.ref a2)] []))
  refine own_go ?_ (fun tq kt => XS.aloadN X90.here hx rfl (hb hby d14_4) rfl rfl kt)
  show own_Fin _ _ _ _ (T90.setTop (mkF m 5 #[.val (.ref a1), .val (.ref a2)] [(.ref a2)]))
  refine own_go ?_ (fun tq kt => XS.ifnonnullYes X90.here hx rfl (pc0 := 5) (pc' := 16) rfl (hb hby d14_5) rfl (by decide) (by decide) kt)
  show own_Fin _ _ _ _ (T90.setTop (mkF m 16 #[.val (.ref a1), .val (.ref a2)] []))
  refine own_go ?_ (fun tq kt => XS.aloadN X90.here hx rfl (hb hby d14_16) rfl rfl kt)
  show own_Fin _ _ _ _ (T90.setTop (mkF m 17 #[.val (.ref a1), .val (.ref a2)] [(.ref a1)]))
  refine own_go ?_ (fun tq kt => XS.aloadN X90.here hx rfl (hb hby d14_17) rfl rfl kt)
  show own_Fin _ _ _ _ (T90.setTop (mkF m 18 #[.val (.ref a1), .val (.ref a2)] [(.ref a2), (.ref a1)]))
  obtain ⟨T91, h91, X91, e91, W91, st91⟩ := putF X90 hx hZ hown (host := "") (Or.inl (hw _ (List.mem_of_getElem? (i := 111) rfl))) Via.refl e90 F_0 E1 (Or.inr ⟨(hw _ (List.mem_of_getElem? (i := 112) rfl)), rfl, hnm⟩) (hw _ (List.mem_of_getElem? (i := 93) rfl)) (ty := (.object "java/util/Collection")) (by decide) rfl rfl (g := (mkF m 18 #[.val (.ref a1), .val (.ref a2)] [(.ref a2), (.ref a1)])) rfl rfl (hb hby d14_18)
  have zs92 := Nat.le_trans Z0 (Keep.of_wr W91).1
  have kp92 : Keep h0 h91 [a1] := kp0.wr W91 (Or.inl (List.mem_of_getElem? (i := 0) rfl))
  have Fw91 := (F_0).same W91
  have N91 := Fr.snoc X91 N0 g1
  refine own_go ?_ (fun tq kt => st91 _ kt)
  show own_Fin _ _ _ _ (T91.setTop (mkF m 21 #[.val (.ref a1), .val (.ref a2)] []))
  refine own_retV X91 hx Bd.returns (hb hby d14_21) hlk ?_ (by decide) (by decide)
  show QC14 Z a1 a2 h0 n0 _ T91.heap _
  rw [e91]
  exact ⟨rfl, N91, kp92, Fw91, (F_1.other W91 (Or.inr (slot_ne (Or.inr (hw _ (List.mem_of_getElem? (i := 114) rfl))) (Or.inr (hw _ (List.mem_of_getElem? (i := 112) rfl))) (by decide) (t := (.object "java/util/List")) (t' := (.object "java/util/Collection")) (by decide) (by decide))))⟩
theorem d13_0 : decode jdk_120_method_1_code 0 = .ok (.aload_n 0, 1) := by decide +kernel
theorem d13_1 : decode jdk_120_method_1_code 1 = .ok (.aload_n 1, 1) := by decide +kernel
theorem d13_2 : decode jdk_120_method_1_code 2 = .ok (.invokespecial 1, 3) := by decide +kernel
theorem d13_5 : decode jdk_120_method_1_code 5 = .ok (.aload_n 0, 1) := by decide +kernel
theorem d13_6 : decode jdk_120_method_1_code 6 = .ok (.aload_n 1, 1) := by decide +kernel
theorem d13_7 : decode jdk_120_method_1_code 7 = .ok (.putfield 7, 3) := by decide +kernel
theorem d13_10 : decode jdk_120_method_1_code 10 = .ok (.return_, 1) := by decide +kernel
theorem pn_13 : plainFor (⟨"java/util/Collections$UnmodifiableList", "<init>", "(Ljava/util/List;)V"⟩ : MethodName) = true := plainFor_of_name (by first | (simp [plainName, overriddenIn]; done) | decide +kernel)
set_option maxRecDepth 65536 in
set_option maxHeartbeats 40000000 in
theorem rm13 (l : Launch) (Z : State) (a0 : Array Value) (hw : ∀ d ∈ tables_1, d.before a0 Z = true) (ws : List Jvm.Cond) (a1 : Addr) (a2 : Addr)  (h0 : Heap) (n0 : Nat) (Z0 : n0 ≤ h0.size) (E1 : Exa Z h0 a1 "java/util/Collections$UnmodifiableRandomAccessList") (F_0 : Fld Z h0 a1 "java/util/Collections$UnmodifiableCollection" "c" "Ljava/util/Collection;" .null) (F_1 : Fld Z h0 a1 "java/util/Collections$UnmodifiableList" "list" "Ljava/util/List;" .null) (g1 : n0 ≤ a1) :
    MetFree l (⟨"java/util/Collections$UnmodifiableList", "<init>", "(Ljava/util/List;)V"⟩ : MethodName) (head1 (Jvm.Cond.code (⟨"java/util/Collections$UnmodifiableList", "<init>", "(Ljava/util/List;)V"⟩ : MethodName) jdk_120_method_1_code 2 none :: ws) ({ frames := 2, cells := 0, slots := 0, locals := 25 } : Room)) (fun a U => a = #[(.ref a1), (.ref a2)] ∧ Z.Warmed39 U.vm ∧ U.heap = h0) (fun _ _ _ _ _ => True) (fun _ U o U' => ∃ v L, o = .returned v ∧ QC13 Z a1 a2 h0 n0 v U'.heap L ∧ FrameEnd U o U' L ({ frames := 2, cells := 0, slots := 0, locals := 25 } : Room).cells ({ frames := 2, cells := 0, slots := 0, locals := 25 } : Room).slots) := by
  refine MetFree.of_bodySF pn_13 hisR ?_
  intro p e s m args below meth c s₁ Bd hml0 hP hK
  obtain ⟨rfl, hZ, hh⟩ := hP
  have hx := Bd.exec
  have hby := Bd.bytes
  have hml : c.maxLocals = 2 := hml0
  have hown : s.vm.findClass "java/util/Collections$UnmodifiableList" = some m.cls := findClass_of_methodNamed Bd.named
  have hnm := (name_of_methodNamed Bd.named Bd.method).1
  have hlk : meth.locks = false := BodyLoose.notSynchronized Bd
  have X0 : Stand p l e ({ frames := 2, cells := 0, slots := 0, locals := 25 } : Room) s m #[(.ref a1), (.ref a2)] below meth c s₁ [] 0 0 := Stand.of_body Bd
  have e0 : s₁.heap = h0 := by rw [← hh, Bd.state]; rfl
  have N0 := Fr.nil n0
  show own_Fin p e below (own_P (QC13 Z a1 a2 h0 n0) s ({ frames := 2, cells := 0, slots := 0, locals := 25 } : Room).cells ({ frames := 2, cells := 0, slots := 0, locals := 25 } : Room).slots) (s₁.setTop (entryFrame m #[(.ref a1), (.ref a2)] 2))
  rw [show entryFrame m #[(.ref a1), (.ref a2)] 2 = mkF m 0 #[.val (.ref a1), .val (.ref a2)] [] from by first | (simp [entryFrame, mkF, argsToLocals, Value.category]; done) | rfl]
  have kp0 := Keep.refl h0 [a1]
  refine own_go ?_ (fun tq kt => XS.aloadN X0.here hx rfl (hb hby d13_0) rfl rfl kt)
  show own_Fin _ _ _ _ (s₁.setTop (mkF m 1 #[.val (.ref a1), .val (.ref a2)] [(.ref a1)]))
  refine own_go ?_ (fun tq kt => XS.aloadN X0.here hx rfl (hb hby d13_1) rfl rfl kt)
  show own_Fin _ _ _ _ (s₁.setTop (mkF m 2 #[.val (.ref a1), .val (.ref a2)] [(.ref a2), (.ref a1)]))
  obtain ⟨_, _, ⟨T97, L97, k97, n97⟩, -, X97, ⟨Lc97, hQ97, l97, y97, z97⟩, st97⟩ := X0.specialBack hx (y := (⟨"java/util/Collections$UnmodifiableCollection", "<init>", "(Ljava/util/Collection;)V"⟩ : MethodName)) rfl hown (mvT hZ (hw _ (List.mem_of_getElem? (i := 104) rfl))) (mvT hZ (hw _ (List.mem_of_getElem? (i := 105) rfl))) (mvT hZ (hw _ (List.mem_of_getElem? (i := 109) rfl))) (by decide) (backOf (W := 0) (rm14 l Z a0 hw [] a1 a2  h0 n0 Z0  E1 F_0 F_1 g1  ) hZ (hw _ (List.mem_of_getElem? (i := 109) rfl)) (hw _ (List.mem_of_getElem? (i := 108) rfl)) (by decide) (by decide)) (g := (mkF m 2 #[.val (.ref a1), .val (.ref a2)] [(.ref a2), (.ref a1)])) rfl (by rw [hml]; rfl) (Steps.refl _) (a := a1) (argsL := [(.ref a2)]) (rest := []) (lenOf own_pd5 rfl) rfl (by show 2 * 0 + _ ≤ _; exact Nat.le_of_eq rfl) (hb hby d13_2) (fun _ _ => ⟨rfl, e0, (by decide : 0 + 0 ≤ _), (by decide : 0 + 0 ≤ _)⟩)
  dsimp only [Pt.U, Pt.locs, Pt.cells, Pt.slots] at X97 l97 y97 z97 st97 hQ97
  subst l97 y97 z97
  obtain ⟨rfl, N97q, K97, F97_0, F97_1⟩ := hQ97
  have N97 := Fr.app N0 N97q
  obtain ⟨h97, e97⟩ : ∃ z, z = T97.heap := ⟨_, rfl⟩
  have e97' := e97.symm
  rw [← e97] at K97 F97_0 F97_1
  have zs98 := Nat.le_trans Z0 K97.1
  have kp98 : Keep h0 h97 [a1] := kp0.trans K97 (allS (Or.inl (List.mem_of_getElem? (i := 0) rfl)) all0)
  refine own_go ?_ (fun tq kt => st97.trans kt)
  show own_Fin _ _ _ _ (T97.setTop (mkF m 5 #[.val (.ref a1), .val (.ref a2)] []))
  refine own_go ?_ (fun tq kt => XS.aloadN X97.here hx rfl (hb hby d13_5) rfl rfl kt)
  show own_Fin _ _ _ _ (T97.setTop (mkF m 6 #[.val (.ref a1), .val (.ref a2)] [(.ref a1)]))
  refine own_go ?_ (fun tq kt => XS.aloadN X97.here hx rfl (hb hby d13_6) rfl rfl kt)
  show own_Fin _ _ _ _ (T97.setTop (mkF m 7 #[.val (.ref a1), .val (.ref a2)] [(.ref a2), (.ref a1)]))
  obtain ⟨T99, h99, X99, e99, W99, st99⟩ := putF X97 hx hZ hown (host := "") (Or.inl (hw _ (List.mem_of_getElem? (i := 113) rfl))) Via.refl e97' F97_1 (E1.keep K97) (Or.inr ⟨(hw _ (List.mem_of_getElem? (i := 114) rfl)), rfl, hnm⟩) (hw _ (List.mem_of_getElem? (i := 93) rfl)) (ty := (.object "java/util/List")) (by decide) rfl rfl (g := (mkF m 7 #[.val (.ref a1), .val (.ref a2)] [(.ref a2), (.ref a1)])) rfl rfl (hb hby d13_7)
  have zs100 := Nat.le_trans zs98 (Keep.of_wr W99).1
  have kp100 : Keep h0 h99 [a1] := kp98.wr W99 (Or.inl (List.mem_of_getElem? (i := 0) rfl))
  have Fw99 := (F97_1).same W99
  have N99 := Fr.snoc X99 N97 g1
  refine own_go ?_ (fun tq kt => st99 _ kt)
  show own_Fin _ _ _ _ (T99.setTop (mkF m 10 #[.val (.ref a1), .val (.ref a2)] []))
  refine own_retV X99 hx Bd.returns (hb hby d13_10) hlk ?_ (by decide) (by decide)
  show QC13 Z a1 a2 h0 n0 _ T99.heap _
  rw [e99]
  exact ⟨rfl, N99, kp100, (F97_0.other W99 (Or.inr (slot_ne (Or.inr (hw _ (List.mem_of_getElem? (i := 112) rfl))) (Or.inr (hw _ (List.mem_of_getElem? (i := 114) rfl))) (by decide) (t := (.object "java/util/Collection")) (t' := (.object "java/util/List")) (by decide) (by decide)))), Fw99⟩
theorem d12_0 : decode jdk_121_method_1_code 0 = .ok (.aload_n 0, 1) := by decide +kernel
theorem d12_1 : decode jdk_121_method_1_code 1 = .ok (.aload_n 1, 1) := by decide +kernel
theorem d12_2 : decode jdk_121_method_1_code 2 = .ok (.invokespecial 1, 3) := by decide +kernel
theorem d12_5 : decode jdk_121_method_1_code 5 = .ok (.return_, 1) := by decide +kernel
theorem pn_12 : plainFor (⟨"java/util/Collections$UnmodifiableRandomAccessList", "<init>", "(Ljava/util/List;)V"⟩ : MethodName) = true := plainFor_of_name (by first | (simp [plainName, overriddenIn]; done) | decide +kernel)
set_option maxRecDepth 65536 in
set_option maxHeartbeats 40000000 in
theorem rm12 (l : Launch) (Z : State) (a0 : Array Value) (hw : ∀ d ∈ tables_1, d.before a0 Z = true) (ws : List Jvm.Cond) (a1 : Addr) (a2 : Addr)  (h0 : Heap) (n0 : Nat) (Z0 : n0 ≤ h0.size) (E1 : Exa Z h0 a1 "java/util/Collections$UnmodifiableRandomAccessList") (F_0 : Fld Z h0 a1 "java/util/Collections$UnmodifiableCollection" "c" "Ljava/util/Collection;" .null) (F_1 : Fld Z h0 a1 "java/util/Collections$UnmodifiableList" "list" "Ljava/util/List;" .null) (g1 : n0 ≤ a1) :
    MetFree l (⟨"java/util/Collections$UnmodifiableRandomAccessList", "<init>", "(Ljava/util/List;)V"⟩ : MethodName) (head1 (Jvm.Cond.code (⟨"java/util/Collections$UnmodifiableRandomAccessList", "<init>", "(Ljava/util/List;)V"⟩ : MethodName) jdk_121_method_1_code 2 none :: ws) ({ frames := 3, cells := 0, slots := 0, locals := 38 } : Room)) (fun a U => a = #[(.ref a1), (.ref a2)] ∧ Z.Warmed39 U.vm ∧ U.heap = h0) (fun _ _ _ _ _ => True) (fun _ U o U' => ∃ v L, o = .returned v ∧ QC12 Z a1 a2 h0 n0 v U'.heap L ∧ FrameEnd U o U' L ({ frames := 3, cells := 0, slots := 0, locals := 38 } : Room).cells ({ frames := 3, cells := 0, slots := 0, locals := 38 } : Room).slots) := by
  refine MetFree.of_bodySF pn_12 hisR ?_
  intro p e s m args below meth c s₁ Bd hml0 hP hK
  obtain ⟨rfl, hZ, hh⟩ := hP
  have hx := Bd.exec
  have hby := Bd.bytes
  have hml : c.maxLocals = 2 := hml0
  have hown : s.vm.findClass "java/util/Collections$UnmodifiableRandomAccessList" = some m.cls := findClass_of_methodNamed Bd.named
  have hnm := (name_of_methodNamed Bd.named Bd.method).1
  have hlk : meth.locks = false := BodyLoose.notSynchronized Bd
  have X0 : Stand p l e ({ frames := 3, cells := 0, slots := 0, locals := 38 } : Room) s m #[(.ref a1), (.ref a2)] below meth c s₁ [] 0 0 := Stand.of_body Bd
  have e0 : s₁.heap = h0 := by rw [← hh, Bd.state]; rfl
  have N0 := Fr.nil n0
  show own_Fin p e below (own_P (QC12 Z a1 a2 h0 n0) s ({ frames := 3, cells := 0, slots := 0, locals := 38 } : Room).cells ({ frames := 3, cells := 0, slots := 0, locals := 38 } : Room).slots) (s₁.setTop (entryFrame m #[(.ref a1), (.ref a2)] 2))
  rw [show entryFrame m #[(.ref a1), (.ref a2)] 2 = mkF m 0 #[.val (.ref a1), .val (.ref a2)] [] from by first | (simp [entryFrame, mkF, argsToLocals, Value.category]; done) | rfl]
  have kp0 := Keep.refl h0 [a1]
  refine own_go ?_ (fun tq kt => XS.aloadN X0.here hx rfl (hb hby d12_0) rfl rfl kt)
  show own_Fin _ _ _ _ (s₁.setTop (mkF m 1 #[.val (.ref a1), .val (.ref a2)] [(.ref a1)]))
  refine own_go ?_ (fun tq kt => XS.aloadN X0.here hx rfl (hb hby d12_1) rfl rfl kt)
  show own_Fin _ _ _ _ (s₁.setTop (mkF m 2 #[.val (.ref a1), .val (.ref a2)] [(.ref a2), (.ref a1)]))
  obtain ⟨_, _, ⟨T103, L103, k103, n103⟩, -, X103, ⟨Lc103, hQ103, l103, y103, z103⟩, st103⟩ := X0.specialBack hx (y := (⟨"java/util/Collections$UnmodifiableList", "<init>", "(Ljava/util/List;)V"⟩ : MethodName)) rfl hown (mvT hZ (hw _ (List.mem_of_getElem? (i := 98) rfl))) (mvT hZ (hw _ (List.mem_of_getElem? (i := 99) rfl))) (mvT hZ (hw _ (List.mem_of_getElem? (i := 103) rfl))) (by decide) (backOf (W := 0) (rm13 l Z a0 hw [] a1 a2  h0 n0 Z0  E1 F_0 F_1 g1  ) hZ (hw _ (List.mem_of_getElem? (i := 103) rfl)) (hw _ (List.mem_of_getElem? (i := 102) rfl)) (by decide) (by decide)) (g := (mkF m 2 #[.val (.ref a1), .val (.ref a2)] [(.ref a2), (.ref a1)])) rfl (by rw [hml]; rfl) (Steps.refl _) (a := a1) (argsL := [(.ref a2)]) (rest := []) (lenOf own_pd6 rfl) rfl (by show 2 * 0 + _ ≤ _; exact Nat.le_of_eq rfl) (hb hby d12_2) (fun _ _ => ⟨rfl, e0, (by decide : 0 + 0 ≤ _), (by decide : 0 + 0 ≤ _)⟩)
  dsimp only [Pt.U, Pt.locs, Pt.cells, Pt.slots] at X103 l103 y103 z103 st103 hQ103
  subst l103 y103 z103
  obtain ⟨rfl, N103q, K103, F103_0, F103_1⟩ := hQ103
  have N103 := Fr.app N0 N103q
  obtain ⟨h103, e103⟩ : ∃ z, z = T103.heap := ⟨_, rfl⟩
  have e103' := e103.symm
  rw [← e103] at K103 F103_0 F103_1
  have zs104 := Nat.le_trans Z0 K103.1
  have kp104 : Keep h0 h103 [a1] := kp0.trans K103 (allS (Or.inl (List.mem_of_getElem? (i := 0) rfl)) all0)
  refine own_go ?_ (fun tq kt => st103.trans kt)
  show own_Fin _ _ _ _ (T103.setTop (mkF m 5 #[.val (.ref a1), .val (.ref a2)] []))
  refine own_retV X103 hx Bd.returns (hb hby d12_5) hlk ?_ (by decide) (by decide)
  show QC12 Z a1 a2 h0 n0 _ T103.heap _
  rw [e103']
  exact ⟨rfl, N103, kp104, F103_0, F103_1⟩
theorem d11_0 : decode jdk_79_method_35_code 0 = .ok (.aload_n 0, 1) := by decide +kernel
theorem d11_1 : decode jdk_79_method_35_code 1 = .ok (.invokeinterface 211 1, 5) := by decide +kernel
theorem d11_6 : decode jdk_79_method_35_code 6 = .ok (.ldc 212, 2) := by decide +kernel
theorem d11_8 : decode jdk_79_method_35_code 8 = .ok (.if_acmp .eq 14, 3) := by decide +kernel
theorem d11_11 : decode jdk_79_method_35_code 11 = .ok (.aload_n 0, 1) := by decide +kernel
theorem d11_12 : decode jdk_79_method_35_code 12 = .ok (.invokeinterface 214 1, 5) := by decide +kernel
theorem d11_17 : decode jdk_79_method_35_code 17 = .ok (.ldc 215, 2) := by decide +kernel
theorem d11_19 : decode jdk_79_method_35_code 19 = .ok (.if_acmp .ne 5, 3) := by decide +kernel
theorem d11_22 : decode jdk_79_method_35_code 22 = .ok (.aload_n 0, 1) := by decide +kernel
theorem d11_23 : decode jdk_79_method_35_code 23 = .ok (.areturn, 1) := by decide +kernel
theorem d11_24 : decode jdk_79_method_35_code 24 = .ok (.aload_n 0, 1) := by decide +kernel
theorem d11_25 : decode jdk_79_method_35_code 25 = .ok (.instanceof 13, 3) := by decide +kernel
theorem d11_28 : decode jdk_79_method_35_code 28 = .ok (.ifCond .eq 14, 3) := by decide +kernel
theorem d11_31 : decode jdk_79_method_35_code 31 = .ok (.new 215, 3) := by decide +kernel
theorem d11_34 : decode jdk_79_method_35_code 34 = .ok (.dup, 1) := by decide +kernel
theorem d11_35 : decode jdk_79_method_35_code 35 = .ok (.aload_n 0, 1) := by decide +kernel
theorem d11_36 : decode jdk_79_method_35_code 36 = .ok (.invokespecial 217, 3) := by decide +kernel
theorem d11_39 : decode jdk_79_method_35_code 39 = .ok (.goto 11, 3) := by decide +kernel
theorem d11_42 : decode jdk_79_method_35_code 42 = .ok (.new 212, 3) := by decide +kernel
theorem d11_45 : decode jdk_79_method_35_code 45 = .ok (.dup, 1) := by decide +kernel
theorem d11_46 : decode jdk_79_method_35_code 46 = .ok (.aload_n 0, 1) := by decide +kernel
theorem d11_47 : decode jdk_79_method_35_code 47 = .ok (.invokespecial 219, 3) := by decide +kernel
theorem d11_50 : decode jdk_79_method_35_code 50 = .ok (.areturn, 1) := by decide +kernel
theorem pn_11 : plainFor (⟨"java/util/Collections", "unmodifiableList", "(Ljava/util/List;)Ljava/util/List;"⟩ : MethodName) = true := plainFor_of_name (by first | (simp [plainName, overriddenIn]; done) | decide +kernel)
set_option maxRecDepth 65536 in
set_option maxHeartbeats 40000000 in
theorem rm11 (l : Launch) (Z : State) (a0 : Array Value) (hw : ∀ d ∈ tables_1, d.before a0 Z = true) (ws : List Jvm.Cond) (a1 : Addr) (mA mL mR : Addr) (h0 : Heap) (n0 : Nat) (Z0 : n0 ≤ h0.size) (E1 : Exa Z h0 a1 "java/util/ArrayList") (MA : own_Mir Z "java/util/ArrayList" mA) (ML : own_Mir Z "java/util/Collections$UnmodifiableList" mL) (MR : own_Mir Z "java/util/Collections$UnmodifiableRandomAccessList" mR) :
    MetFree l (⟨"java/util/Collections", "unmodifiableList", "(Ljava/util/List;)Ljava/util/List;"⟩ : MethodName) (head1 (Jvm.Cond.code (⟨"java/util/Collections", "unmodifiableList", "(Ljava/util/List;)Ljava/util/List;"⟩ : MethodName) jdk_79_method_35_code 1 (some (.object "java/util/List")) :: ws) ({ frames := 4, cells := 1, slots := 2, locals := 52 } : Room)) (fun a U => a = #[(.ref a1)] ∧ Z.Warmed39 U.vm ∧ U.heap = h0) (fun _ _ _ _ _ => True) (fun _ U o U' => ∃ v L, o = .returned v ∧ QUL h0 n0 v U'.heap L ∧ FrameEnd U o U' L ({ frames := 4, cells := 1, slots := 2, locals := 52 } : Room).cells ({ frames := 4, cells := 1, slots := 2, locals := 52 } : Room).slots) := by
  refine MetFree.of_bodySF pn_11 hisR ?_
  intro p e s m args below meth c s₁ Bd hml0 hP hK
  obtain ⟨rfl, hZ, hh⟩ := hP
  have hx := Bd.exec
  have hby := Bd.bytes
  have hml : c.maxLocals = 1 := hml0
  have hown : s.vm.findClass "java/util/Collections" = some m.cls := findClass_of_methodNamed Bd.named
  have hnm := (name_of_methodNamed Bd.named Bd.method).1
  have hlk : meth.locks = false := BodyLoose.notSynchronized Bd
  have X0 : Stand p l e ({ frames := 4, cells := 1, slots := 2, locals := 52 } : Room) s m #[(.ref a1)] below meth c s₁ [] 0 0 := Stand.of_body Bd
  have e0 : s₁.heap = h0 := by rw [← hh, Bd.state]; rfl
  have N0 := Fr.nil n0
  show own_Fin p e below (own_P (QUL h0 n0) s ({ frames := 4, cells := 1, slots := 2, locals := 52 } : Room).cells ({ frames := 4, cells := 1, slots := 2, locals := 52 } : Room).slots) (s₁.setTop (entryFrame m #[(.ref a1)] 1))
  rw [show entryFrame m #[(.ref a1)] 1 = mkF m 0 #[.val (.ref a1)] [] from by first | (simp [entryFrame, mkF, argsToLocals, Value.category]; done) | rfl]
  have kp0 := Keep.refl h0 []
  refine own_go ?_ (fun tq kt => XS.aloadN X0.here hx rfl (hb hby d11_0) rfl rfl kt)
  show own_Fin _ _ _ _ (s₁.setTop (mkF m 1 #[.val (.ref a1)] [(.ref a1)]))
  obtain ⟨T114, X114, e114, st114⟩ := own_gcI X0 hx hZ hown (hw _ (List.mem_of_getElem? (i := 76) rfl)) (hw _ (List.mem_of_getElem? (i := 77) rfl)) (hw _ (List.mem_of_getElem? (i := 78) rfl)) (hw _ (List.mem_of_getElem? (i := 79) rfl)) (hw _ (List.mem_of_getElem? (i := 80) rfl)) (hw _ (List.mem_of_getElem? (i := 81) rfl)) (hw _ (List.mem_of_getElem? (i := 82) rfl)) (hw _ (List.mem_of_getElem? (i := 83) rfl)) (hw _ (List.mem_of_getElem? (i := 84) rfl)) e0 E1 MA (g := (mkF m 1 #[.val (.ref a1)] [(.ref a1)])) rfl (by rw [hml]; rfl) rfl (hb hby d11_1) (by decide) (W := 0) (by show 2 * 0 + _ ≤ _; exact Nat.le_of_eq rfl) (by decide)
  refine own_go ?_ (fun tq kt => st114 _ kt)
  show own_Fin _ _ _ _ (T114.setTop (mkF m 6 #[.val (.ref a1)] [(.ref mA)]))
  obtain ⟨T115, X115, e115, st115⟩ := own_ldcM X114 hx hZ hown (hw _ (List.mem_of_getElem? (i := 86) rfl)) e114 ML (g := (mkF m 6 #[.val (.ref a1)] [(.ref mA)])) rfl (hb hby d11_6)
  refine own_go ?_ (fun tq kt => st115 _ kt)
  show own_Fin _ _ _ _ (T115.setTop (mkF m 8 #[.val (.ref a1)] [(.ref mL), (.ref mA)]))
  by_cases hm8 : mA = mL
  · refine own_go ?_ (fun tq kt => Jvm.RoadKit.acmp (g := (mkF m 8 #[.val (.ref a1)] [(.ref mL), (.ref mA)])) X115 hx rfl rfl rfl (pc0 := 8) (pc' := 22) (same := true) rfl (hb hby d11_8) rfl (decide_eq_true (congrArg Value.ref hm8)) (by decide) (by decide) kt)
    show own_Fin _ _ _ _ (T115.setTop (mkF m 22 #[.val (.ref a1)] []))
    refine own_go ?_ (fun tq kt => XS.aloadN X115.here hx rfl (hb hby d11_22) rfl rfl kt)
    show own_Fin _ _ _ _ (T115.setTop (mkF m 23 #[.val (.ref a1)] [(.ref a1)]))
    refine own_retO X115 hx (t := (.object "java/util/List")) Bd.returns rfl (Or.inr (Or.inr (Or.inr (Or.inr ⟨rfl, rfl, rfl⟩)))) (hb hby d11_23) hlk ?_ (by decide) (by decide)
    show QUL h0 n0 _ T115.heap _
    rw [e115]
    exact ⟨_, rfl, N0, own_extK kp0⟩
  · refine own_go ?_ (fun tq kt => Jvm.RoadKit.acmp (g := (mkF m 8 #[.val (.ref a1)] [(.ref mL), (.ref mA)])) X115 hx rfl rfl rfl (pc0 := 8) (pc' := 11) (same := false) rfl (hb hby d11_8) rfl (decide_eq_false fun q => hm8 (Value.ref.inj q)) (by decide) (by decide) kt)
    show own_Fin _ _ _ _ (T115.setTop (mkF m 11 #[.val (.ref a1)] []))
    refine own_go ?_ (fun tq kt => XS.aloadN X115.here hx rfl (hb hby d11_11) rfl rfl kt)
    show own_Fin _ _ _ _ (T115.setTop (mkF m 12 #[.val (.ref a1)] [(.ref a1)]))
    obtain ⟨T116, X116, e116, st116⟩ := own_gcI X115 hx hZ hown (hw _ (List.mem_of_getElem? (i := 88) rfl)) (hw _ (List.mem_of_getElem? (i := 77) rfl)) (hw _ (List.mem_of_getElem? (i := 78) rfl)) (hw _ (List.mem_of_getElem? (i := 79) rfl)) (hw _ (List.mem_of_getElem? (i := 80) rfl)) (hw _ (List.mem_of_getElem? (i := 81) rfl)) (hw _ (List.mem_of_getElem? (i := 82) rfl)) (hw _ (List.mem_of_getElem? (i := 83) rfl)) (hw _ (List.mem_of_getElem? (i := 84) rfl)) e115 E1 MA (g := (mkF m 12 #[.val (.ref a1)] [(.ref a1)])) rfl (by rw [hml]; rfl) rfl (hb hby d11_12) (by decide) (W := 0) (by show 2 * 0 + _ ≤ _; exact Nat.le_of_eq rfl) (by decide)
    refine own_go ?_ (fun tq kt => st116 _ kt)
    show own_Fin _ _ _ _ (T116.setTop (mkF m 17 #[.val (.ref a1)] [(.ref mA)]))
    obtain ⟨T117, X117, e117, st117⟩ := own_ldcM X116 hx hZ hown (hw _ (List.mem_of_getElem? (i := 89) rfl)) e116 MR (g := (mkF m 17 #[.val (.ref a1)] [(.ref mA)])) rfl (hb hby d11_17)
    refine own_go ?_ (fun tq kt => st117 _ kt)
    show own_Fin _ _ _ _ (T117.setTop (mkF m 19 #[.val (.ref a1)] [(.ref mR), (.ref mA)]))
    by_cases hm19 : mA = mR
    · refine own_go ?_ (fun tq kt => Jvm.RoadKit.acmp (g := (mkF m 19 #[.val (.ref a1)] [(.ref mR), (.ref mA)])) X117 hx rfl rfl rfl (pc0 := 19) (pc' := 22) (same := true) rfl (hb hby d11_19) rfl (decide_eq_true (congrArg Value.ref hm19)) (by decide) (by decide) kt)
      show own_Fin _ _ _ _ (T117.setTop (mkF m 22 #[.val (.ref a1)] []))
      refine own_go ?_ (fun tq kt => XS.aloadN X117.here hx rfl (hb hby d11_22) rfl rfl kt)
      show own_Fin _ _ _ _ (T117.setTop (mkF m 23 #[.val (.ref a1)] [(.ref a1)]))
      refine own_retO X117 hx (t := (.object "java/util/List")) Bd.returns rfl (Or.inr (Or.inr (Or.inr (Or.inr ⟨rfl, rfl, rfl⟩)))) (hb hby d11_23) hlk ?_ (by decide) (by decide)
      show QUL h0 n0 _ T117.heap _
      rw [e117]
      exact ⟨_, rfl, N0, own_extK kp0⟩
    · refine own_go ?_ (fun tq kt => Jvm.RoadKit.acmp (g := (mkF m 19 #[.val (.ref a1)] [(.ref mR), (.ref mA)])) X117 hx rfl rfl rfl (pc0 := 19) (pc' := 24) (same := false) rfl (hb hby d11_19) rfl (decide_eq_false fun q => hm19 (Value.ref.inj q)) (by decide) (by decide) kt)
      show own_Fin _ _ _ _ (T117.setTop (mkF m 24 #[.val (.ref a1)] []))
      refine own_go ?_ (fun tq kt => XS.aloadN X117.here hx rfl (hb hby d11_24) rfl rfl kt)
      show own_Fin _ _ _ _ (T117.setTop (mkF m 25 #[.val (.ref a1)] [(.ref a1)]))
      obtain ⟨T118, X118, e118, st118⟩ := instY X117 hx hZ hown (hw _ (List.mem_of_getElem? (i := 91) rfl)) e117 (Ins.of_exa E1 (hw _ (List.mem_of_getElem? (i := 92) rfl))) (g := (mkF m 25 #[.val (.ref a1)] [(.ref a1)])) rfl rfl (hb hby d11_25)
      refine own_go ?_ (fun tq kt => st118 _ kt)
      show own_Fin _ _ _ _ (T118.setTop (mkF m 28 #[.val (.ref a1)] [(.int (1 : Int32))]))
      refine own_go ?_ (fun tq kt => XS.ifNo X118.here hx rfl (hb hby d11_28) rfl ((if0 _ _).trans (feq ((by decide) : ¬ ((1 : Int32) = (0 : Int32)))).1) kt)
      show own_Fin _ _ _ _ (T118.setTop (mkF m 31 #[.val (.ref a1)] []))
      obtain ⟨T119, h119, X119, e119, E119, A119, D119, -, st119⟩ := newO X118 hx hZ hown (hw _ (List.mem_of_getElem? (i := 89) rfl)) (hw _ (List.mem_of_getElem? (i := 93) rfl)) (hw _ (List.mem_of_getElem? (i := 94) rfl)) e118 (g := (mkF m 31 #[.val (.ref a1)] [])) rfl (hb hby d11_31) (by decide) (by decide)
      obtain ⟨b119, g119⟩ : ∃ z, z = h0.size := ⟨_, rfl⟩
      rw [← g119] at A119 D119 st119
      have zs120 := Nat.le_trans Z0 E119.1
      have kp120 : Keep h0 h119 [] := kp0.ext E119
      have g_b119 : n0 ≤ b119 := Nat.le_trans Z0 (Nat.le_of_eq g119.symm)
      have sz_b119 : h0.size ≤ b119 := Nat.le_trans kp0.1 (Nat.le_of_eq g119.symm)
      have ne_a1_b119 : a1 ≠ b119 := Nat.ne_of_lt (Nat.lt_of_lt_of_le (E1).lt (Nat.le_of_eq g119.symm))
      have F119_c : Fld Z h119 b119 "java/util/Collections$UnmodifiableCollection" "c" "Ljava/util/Collection;" .null := D119 (Or.inr (hw _ (List.mem_of_getElem? (i := 112) rfl))) (ty := (.object "java/util/Collection")) (by decide)
      have F119_list : Fld Z h119 b119 "java/util/Collections$UnmodifiableList" "list" "Ljava/util/List;" .null := D119 (Or.inr (hw _ (List.mem_of_getElem? (i := 114) rfl))) (ty := (.object "java/util/List")) (by decide)
      refine own_go ?_ (fun tq kt => st119 _ kt)
      show own_Fin _ _ _ _ (T119.setTop (mkF m 34 #[.val (.ref a1)] [(.ref b119)]))
      refine own_go ?_ (fun tq kt => XS.dup X119.here hx rfl (hb hby d11_34) rfl rfl kt)
      show own_Fin _ _ _ _ (T119.setTop (mkF m 35 #[.val (.ref a1)] [(.ref b119), (.ref b119)]))
      refine own_go ?_ (fun tq kt => XS.aloadN X119.here hx rfl (hb hby d11_35) rfl rfl kt)
      show own_Fin _ _ _ _ (T119.setTop (mkF m 36 #[.val (.ref a1)] [(.ref a1), (.ref b119), (.ref b119)]))
      obtain ⟨_, _, ⟨T121, L121, k121, n121⟩, -, X121, ⟨Lc121, hQ121, l121, y121, z121⟩, st121⟩ := X119.specialBack hx (y := (⟨"java/util/Collections$UnmodifiableRandomAccessList", "<init>", "(Ljava/util/List;)V"⟩ : MethodName)) rfl hown (mvT hZ (hw _ (List.mem_of_getElem? (i := 95) rfl))) (mvT hZ (hw _ (List.mem_of_getElem? (i := 96) rfl))) (mvT hZ (hw _ (List.mem_of_getElem? (i := 97) rfl))) (by decide) (backOf (W := 1) (rm12 l Z a0 hw [] b119 a1  h119 n0 zs120  A119 F119_c F119_list g_b119  ) hZ (hw _ (List.mem_of_getElem? (i := 97) rfl)) (hw _ (List.mem_of_getElem? (i := 94) rfl)) (by decide) (by decide)) (g := (mkF m 36 #[.val (.ref a1)] [(.ref a1), (.ref b119), (.ref b119)])) rfl (by rw [hml]; rfl) (Steps.refl _) (a := b119) (argsL := [(.ref a1)]) (rest := [(.ref b119)]) (lenOf own_pd6 rfl) rfl (by show 2 * 0 + _ ≤ _; exact Nat.le_of_eq rfl) (hb hby d11_36) (fun _ _ => ⟨rfl, e119, (by decide : 1 + 0 ≤ _), (by decide : 2 + 0 ≤ _)⟩)
      dsimp only [Pt.U, Pt.locs, Pt.cells, Pt.slots] at X121 l121 y121 z121 st121 hQ121
      subst l121 y121 z121
      obtain ⟨rfl, N121q, K121, F121_0, F121_1⟩ := hQ121
      have N121 := Fr.app N0 N121q
      obtain ⟨h121, e121⟩ : ∃ z, z = T121.heap := ⟨_, rfl⟩
      have e121' := e121.symm
      rw [← e121] at K121 F121_0 F121_1
      have zs122 := Nat.le_trans zs120 K121.1
      have kp122 : Keep h0 h121 [] := kp120.trans K121 (allS (Or.inr sz_b119) all0)
      refine own_go ?_ (fun tq kt => st121.trans kt)
      show own_Fin _ _ _ _ (T121.setTop (mkF m 39 #[.val (.ref a1)] [(.ref b119)]))
      refine own_go ?_ (fun tq kt => XS.goto X121.here hx rfl (pc0 := 39) (pc' := 50) rfl (hb hby d11_39) (by decide) (by decide) kt)
      show own_Fin _ _ _ _ (T121.setTop (mkF m 50 #[.val (.ref a1)] [(.ref b119)]))
      refine own_retO X121 hx (t := (.object "java/util/List")) Bd.returns rfl (Or.inr (Or.inr (Or.inr (Or.inr ⟨rfl, rfl, rfl⟩)))) (hb hby d11_50) hlk ?_ (by decide) (by decide)
      show QUL h0 n0 _ T121.heap _
      rw [e121']
      exact ⟨_, rfl, N121, own_extK kp122⟩
theorem d10_0 : decode prog_55_method_1_code 0 = .ok (.aload_n 0, 1) := by decide +kernel
theorem d10_1 : decode prog_55_method_1_code 1 = .ok (.invokespecial 1, 3) := by decide +kernel
theorem d10_4 : decode prog_55_method_1_code 4 = .ok (.aload_n 0, 1) := by decide +kernel
theorem d10_5 : decode prog_55_method_1_code 5 = .ok (.aload_n 1, 1) := by decide +kernel
theorem d10_6 : decode prog_55_method_1_code 6 = .ok (.putfield 7, 3) := by decide +kernel
theorem d10_9 : decode prog_55_method_1_code 9 = .ok (.aload_n 0, 1) := by decide +kernel
theorem d10_10 : decode prog_55_method_1_code 10 = .ok (.iload_n 2, 1) := by decide +kernel
theorem d10_11 : decode prog_55_method_1_code 11 = .ok (.putfield 13, 3) := by decide +kernel
theorem d10_14 : decode prog_55_method_1_code 14 = .ok (.aload_n 0, 1) := by decide +kernel
theorem d10_15 : decode prog_55_method_1_code 15 = .ok (.iload_n 3, 1) := by decide +kernel
theorem d10_16 : decode prog_55_method_1_code 16 = .ok (.putfield 17, 3) := by decide +kernel
theorem d10_19 : decode prog_55_method_1_code 19 = .ok (.aload_n 0, 1) := by decide +kernel
theorem d10_20 : decode prog_55_method_1_code 20 = .ok (.aload 4, 2) := by decide +kernel
theorem d10_22 : decode prog_55_method_1_code 22 = .ok (.putfield 20, 3) := by decide +kernel
theorem d10_25 : decode prog_55_method_1_code 25 = .ok (.aload_n 0, 1) := by decide +kernel
theorem d10_26 : decode prog_55_method_1_code 26 = .ok (.aload 5, 2) := by decide +kernel
theorem d10_28 : decode prog_55_method_1_code 28 = .ok (.invokestatic 24, 3) := by decide +kernel
theorem d10_31 : decode prog_55_method_1_code 31 = .ok (.putfield 30, 3) := by decide +kernel
theorem d10_34 : decode prog_55_method_1_code 34 = .ok (.aload_n 0, 1) := by decide +kernel
theorem d10_35 : decode prog_55_method_1_code 35 = .ok (.aload 6, 2) := by decide +kernel
theorem d10_37 : decode prog_55_method_1_code 37 = .ok (.invokestatic 24, 3) := by decide +kernel
theorem d10_40 : decode prog_55_method_1_code 40 = .ok (.putfield 34, 3) := by decide +kernel
theorem d10_43 : decode prog_55_method_1_code 43 = .ok (.aload_n 0, 1) := by decide +kernel
theorem d10_44 : decode prog_55_method_1_code 44 = .ok (.iload 7, 2) := by decide +kernel
theorem d10_46 : decode prog_55_method_1_code 46 = .ok (.putfield 37, 3) := by decide +kernel
theorem d10_49 : decode prog_55_method_1_code 49 = .ok (.return_, 1) := by decide +kernel
theorem pn_10 : plainFor (⟨"com/example/conformance_check/conformancecheck/document/RationaleRow", "<init>", "(Ljava/lang/Integer;IILjava/lang/String;Ljava/util/List;Ljava/util/List;Z)V"⟩ : MethodName) = true := plainFor_of_name (by first | (simp [plainName, overriddenIn]; done) | decide +kernel)
set_option maxRecDepth 65536 in
set_option maxHeartbeats 40000000 in
theorem rm10 (l : Launch) (Z : State) (a0 : Array Value) (hw : ∀ d ∈ tables_1, d.before a0 Z = true) (ws : List Jvm.Cond) (a1 : Addr) (v2 : Value) (p3 : Int32) (p4 : Int32) (a5 : Addr) (a6 : Addr) (a7 : Addr) (p8 : Int32) (mA mL mR : Addr) (h0 : Heap) (n0 : Nat) (Z0 : n0 ≤ h0.size) (E1 : Exa Z h0 a1 "com/example/conformance_check/conformancecheck/document/RationaleRow") (F_0 : Fld Z h0 a1 "com/example/conformance_check/conformancecheck/document/RationaleRow" "number" "Ljava/lang/Integer;" .null) (F_1 : Fld Z h0 a1 "com/example/conformance_check/conformancecheck/document/RationaleRow" "index" "I" (.int (0 : Int32))) (F_2 : Fld Z h0 a1 "com/example/conformance_check/conformancecheck/document/RationaleRow" "line" "I" (.int (0 : Int32))) (F_3 : Fld Z h0 a1 "com/example/conformance_check/conformancecheck/document/RationaleRow" "component" "Ljava/lang/String;" .null) (F_4 : Fld Z h0 a1 "com/example/conformance_check/conformancecheck/document/RationaleRow" "named" "Ljava/util/List;" .null) (F_5 : Fld Z h0 a1 "com/example/conformance_check/conformancecheck/document/RationaleRow" "dependencies" "Ljava/util/List;" .null) (F_6 : Fld Z h0 a1 "com/example/conformance_check/conformancecheck/document/RationaleRow" "givesReferences" "Z" (.int (0 : Int32))) (g1 : n0 ≤ a1) (hv2 : v2.isRef = true) (E6 : Exa Z h0 a6 "java/util/ArrayList") (E7 : Exa Z h0 a7 "java/util/ArrayList") (MA : own_Mir Z "java/util/ArrayList" mA) (ML : own_Mir Z "java/util/Collections$UnmodifiableList" mL) (MR : own_Mir Z "java/util/Collections$UnmodifiableRandomAccessList" mR) :
    MetFree l (⟨"com/example/conformance_check/conformancecheck/document/RationaleRow", "<init>", "(Ljava/lang/Integer;IILjava/lang/String;Ljava/util/List;Ljava/util/List;Z)V"⟩ : MethodName) (head1 (Jvm.Cond.code (⟨"com/example/conformance_check/conformancecheck/document/RationaleRow", "<init>", "(Ljava/lang/Integer;IILjava/lang/String;Ljava/util/List;Ljava/util/List;Z)V"⟩ : MethodName) prog_55_method_1_code 8 none :: ws) ({ frames := 5, cells := 2, slots := 4, locals := 65 } : Room)) (fun a U => a = #[(.ref a1), v2, (.int p3), (.int p4), (.ref a5), (.ref a6), (.ref a7), (.int p8)] ∧ Z.Warmed39 U.vm ∧ U.heap = h0) (fun _ _ _ _ _ => True) (fun _ U o U' => ∃ v L, o = .returned v ∧ QC10 Z a1 v2 p3 p4 a5 a6 a7 p8 mA mL mR h0 n0 v U'.heap L ∧ FrameEnd U o U' L ({ frames := 5, cells := 2, slots := 4, locals := 65 } : Room).cells ({ frames := 5, cells := 2, slots := 4, locals := 65 } : Room).slots) := by
  refine MetFree.of_bodySF pn_10 hisR ?_
  intro p e s m args below meth c s₁ Bd hml0 hP hK
  obtain ⟨rfl, hZ, hh⟩ := hP
  have hx := Bd.exec
  have hby := Bd.bytes
  have hml : c.maxLocals = 8 := hml0
  have hown : s.vm.findClass "com/example/conformance_check/conformancecheck/document/RationaleRow" = some m.cls := findClass_of_methodNamed Bd.named
  have hnm := (name_of_methodNamed Bd.named Bd.method).1
  have hlk : meth.locks = false := BodyLoose.notSynchronized Bd
  have X0 : Stand p l e ({ frames := 5, cells := 2, slots := 4, locals := 65 } : Room) s m #[(.ref a1), v2, (.int p3), (.int p4), (.ref a5), (.ref a6), (.ref a7), (.int p8)] below meth c s₁ [] 0 0 := Stand.of_body Bd
  have e0 : s₁.heap = h0 := by rw [← hh, Bd.state]; rfl
  have N0 := Fr.nil n0
  show own_Fin p e below (own_P (QC10 Z a1 v2 p3 p4 a5 a6 a7 p8 mA mL mR h0 n0) s ({ frames := 5, cells := 2, slots := 4, locals := 65 } : Room).cells ({ frames := 5, cells := 2, slots := 4, locals := 65 } : Room).slots) (s₁.setTop (entryFrame m #[(.ref a1), v2, (.int p3), (.int p4), (.ref a5), (.ref a6), (.ref a7), (.int p8)] 8))
  rw [show entryFrame m #[(.ref a1), v2, (.int p3), (.int p4), (.ref a5), (.ref a6), (.ref a7), (.int p8)] 8 = mkF m 0 #[.val (.ref a1), .val v2, .val (.int p3), .val (.int p4), .val (.ref a5), .val (.ref a6), .val (.ref a7), .val (.int p8)] [] from by rcases ref_cases hv2 with hv | ⟨_, hv⟩ <;> subst hv <;> first | (simp [entryFrame, mkF, argsToLocals, Value.category]; done) | rfl]
  have kp0 := Keep.refl h0 [a1]
  refine own_go ?_ (fun tq kt => XS.aloadN X0.here hx rfl (hb hby d10_0) rfl rfl kt)
  show own_Fin _ _ _ _ (s₁.setTop (mkF m 1 #[.val (.ref a1), .val v2, .val (.int p3), .val (.int p4), .val (.ref a5), .val (.ref a6), .val (.ref a7), .val (.int p8)] [(.ref a1)]))
  obtain ⟨T142, X142, e142, st142⟩ := initO X0 hx hZ hown (hw _ (List.mem_of_getElem? (i := 63) rfl)) (hw _ (List.mem_of_getElem? (i := 26) rfl)) (hw _ (List.mem_of_getElem? (i := 27) rfl)) e0 (g := (mkF m 1 #[.val (.ref a1), .val v2, .val (.int p3), .val (.int p4), .val (.ref a5), .val (.ref a6), .val (.ref a7), .val (.int p8)] [(.ref a1)])) rfl (by rw [hml]; rfl) rfl (hb hby d10_1) (by decide) (W := 0) (by show 2 * 0 + _ ≤ _; exact Nat.le_of_eq rfl) (by decide)
  refine own_go ?_ (fun tq kt => st142 _ kt)
  show own_Fin _ _ _ _ (T142.setTop (mkF m 4 #[.val (.ref a1), .val v2, .val (.int p3), .val (.int p4), .val (.ref a5), .val (.ref a6), .val (.ref a7), .val (.int p8)] []))
  refine own_go ?_ (fun tq kt => XS.aloadN X142.here hx rfl (hb hby d10_4) rfl rfl kt)
  show own_Fin _ _ _ _ (T142.setTop (mkF m 5 #[.val (.ref a1), .val v2, .val (.int p3), .val (.int p4), .val (.ref a5), .val (.ref a6), .val (.ref a7), .val (.int p8)] [(.ref a1)]))
  refine own_go ?_ (fun tq kt => XS.aloadN X142.here hx rfl (hb hby d10_5) rfl hv2 kt)
  show own_Fin _ _ _ _ (T142.setTop (mkF m 6 #[.val (.ref a1), .val v2, .val (.int p3), .val (.int p4), .val (.ref a5), .val (.ref a6), .val (.ref a7), .val (.int p8)] [v2, (.ref a1)]))
  obtain ⟨T143, h143, X143, e143, W143, st143⟩ := putF X142 hx hZ hown (host := "") (Or.inl (hw _ (List.mem_of_getElem? (i := 64) rfl))) Via.refl e142 F_0 E1 (Or.inr ⟨(hw _ (List.mem_of_getElem? (i := 65) rfl)), rfl, hnm⟩) (hw _ (List.mem_of_getElem? (i := 58) rfl)) (ty := (.object "java/lang/Integer")) (by decide) (own_narR hv2) (own_fitR hv2) (g := (mkF m 6 #[.val (.ref a1), .val v2, .val (.int p3), .val (.int p4), .val (.ref a5), .val (.ref a6), .val (.ref a7), .val (.int p8)] [v2, (.ref a1)])) rfl rfl (hb hby d10_6)
  have zs144 := Nat.le_trans Z0 (Keep.of_wr W143).1
  have kp144 : Keep h0 h143 [a1] := kp0.wr W143 (Or.inl (List.mem_of_getElem? (i := 0) rfl))
  have Fw143 := (F_0).same W143
  have N143 := Fr.snoc X143 N0 g1
  refine own_go ?_ (fun tq kt => st143 _ kt)
  show own_Fin _ _ _ _ (T143.setTop (mkF m 9 #[.val (.ref a1), .val v2, .val (.int p3), .val (.int p4), .val (.ref a5), .val (.ref a6), .val (.ref a7), .val (.int p8)] []))
  refine own_go ?_ (fun tq kt => XS.aloadN X143.here hx rfl (hb hby d10_9) rfl rfl kt)
  show own_Fin _ _ _ _ (T143.setTop (mkF m 10 #[.val (.ref a1), .val v2, .val (.int p3), .val (.int p4), .val (.ref a5), .val (.ref a6), .val (.ref a7), .val (.int p8)] [(.ref a1)]))
  refine own_go ?_ (fun tq kt => XS.iloadN X143.here hx rfl (hb hby d10_10) rfl kt)
  show own_Fin _ _ _ _ (T143.setTop (mkF m 11 #[.val (.ref a1), .val v2, .val (.int p3), .val (.int p4), .val (.ref a5), .val (.ref a6), .val (.ref a7), .val (.int p8)] [(.int p3), (.ref a1)]))
  obtain ⟨T145, h145, X145, e145, W145, st145⟩ := putF X143 hx hZ hown (host := "") (Or.inl (hw _ (List.mem_of_getElem? (i := 66) rfl))) Via.refl e143 (F_1.other W143 (Or.inr (slot_ne (Or.inr (hw _ (List.mem_of_getElem? (i := 67) rfl))) (Or.inr (hw _ (List.mem_of_getElem? (i := 65) rfl))) (by decide) (t := .int) (t' := (.object "java/lang/Integer")) (by decide) (by decide)))) (E1.wr W143) (Or.inr ⟨(hw _ (List.mem_of_getElem? (i := 67) rfl)), rfl, hnm⟩) (hw _ (List.mem_of_getElem? (i := 58) rfl)) (ty := .int) (by decide) rfl rfl (g := (mkF m 11 #[.val (.ref a1), .val v2, .val (.int p3), .val (.int p4), .val (.ref a5), .val (.ref a6), .val (.ref a7), .val (.int p8)] [(.int p3), (.ref a1)])) rfl rfl (hb hby d10_11)
  have zs146 := Nat.le_trans zs144 (Keep.of_wr W145).1
  have kp146 : Keep h0 h145 [a1] := kp144.wr W145 (Or.inl (List.mem_of_getElem? (i := 0) rfl))
  have Fw145 := ((F_1.other W143 (Or.inr (slot_ne (Or.inr (hw _ (List.mem_of_getElem? (i := 67) rfl))) (Or.inr (hw _ (List.mem_of_getElem? (i := 65) rfl))) (by decide) (t := .int) (t' := (.object "java/lang/Integer")) (by decide) (by decide))))).same W145
  have N145 := Fr.snoc X145 N143 g1
  refine own_go ?_ (fun tq kt => st145 _ kt)
  show own_Fin _ _ _ _ (T145.setTop (mkF m 14 #[.val (.ref a1), .val v2, .val (.int p3), .val (.int p4), .val (.ref a5), .val (.ref a6), .val (.ref a7), .val (.int p8)] []))
  refine own_go ?_ (fun tq kt => XS.aloadN X145.here hx rfl (hb hby d10_14) rfl rfl kt)
  show own_Fin _ _ _ _ (T145.setTop (mkF m 15 #[.val (.ref a1), .val v2, .val (.int p3), .val (.int p4), .val (.ref a5), .val (.ref a6), .val (.ref a7), .val (.int p8)] [(.ref a1)]))
  refine own_go ?_ (fun tq kt => XS.iloadN X145.here hx rfl (hb hby d10_15) rfl kt)
  show own_Fin _ _ _ _ (T145.setTop (mkF m 16 #[.val (.ref a1), .val v2, .val (.int p3), .val (.int p4), .val (.ref a5), .val (.ref a6), .val (.ref a7), .val (.int p8)] [(.int p4), (.ref a1)]))
  obtain ⟨T147, h147, X147, e147, W147, st147⟩ := putF X145 hx hZ hown (host := "") (Or.inl (hw _ (List.mem_of_getElem? (i := 68) rfl))) Via.refl e145 ((F_2.other W143 (Or.inr (slot_ne (Or.inr (hw _ (List.mem_of_getElem? (i := 69) rfl))) (Or.inr (hw _ (List.mem_of_getElem? (i := 65) rfl))) (by decide) (t := .int) (t' := (.object "java/lang/Integer")) (by decide) (by decide)))).other W145 (Or.inr (slot_ne (Or.inr (hw _ (List.mem_of_getElem? (i := 69) rfl))) (Or.inr (hw _ (List.mem_of_getElem? (i := 67) rfl))) (by decide) (t := .int) (t' := .int) (by decide) (by decide)))) ((E1.wr W143).wr W145) (Or.inr ⟨(hw _ (List.mem_of_getElem? (i := 69) rfl)), rfl, hnm⟩) (hw _ (List.mem_of_getElem? (i := 58) rfl)) (ty := .int) (by decide) rfl rfl (g := (mkF m 16 #[.val (.ref a1), .val v2, .val (.int p3), .val (.int p4), .val (.ref a5), .val (.ref a6), .val (.ref a7), .val (.int p8)] [(.int p4), (.ref a1)])) rfl rfl (hb hby d10_16)
  have zs148 := Nat.le_trans zs146 (Keep.of_wr W147).1
  have kp148 : Keep h0 h147 [a1] := kp146.wr W147 (Or.inl (List.mem_of_getElem? (i := 0) rfl))
  have Fw147 := (((F_2.other W143 (Or.inr (slot_ne (Or.inr (hw _ (List.mem_of_getElem? (i := 69) rfl))) (Or.inr (hw _ (List.mem_of_getElem? (i := 65) rfl))) (by decide) (t := .int) (t' := (.object "java/lang/Integer")) (by decide) (by decide)))).other W145 (Or.inr (slot_ne (Or.inr (hw _ (List.mem_of_getElem? (i := 69) rfl))) (Or.inr (hw _ (List.mem_of_getElem? (i := 67) rfl))) (by decide) (t := .int) (t' := .int) (by decide) (by decide))))).same W147
  have N147 := Fr.snoc X147 N145 g1
  refine own_go ?_ (fun tq kt => st147 _ kt)
  show own_Fin _ _ _ _ (T147.setTop (mkF m 19 #[.val (.ref a1), .val v2, .val (.int p3), .val (.int p4), .val (.ref a5), .val (.ref a6), .val (.ref a7), .val (.int p8)] []))
  refine own_go ?_ (fun tq kt => XS.aloadN X147.here hx rfl (hb hby d10_19) rfl rfl kt)
  show own_Fin _ _ _ _ (T147.setTop (mkF m 20 #[.val (.ref a1), .val v2, .val (.int p3), .val (.int p4), .val (.ref a5), .val (.ref a6), .val (.ref a7), .val (.int p8)] [(.ref a1)]))
  refine own_go ?_ (fun tq kt => XS.aload X147.here hx rfl (hb hby d10_20) rfl rfl kt)
  show own_Fin _ _ _ _ (T147.setTop (mkF m 22 #[.val (.ref a1), .val v2, .val (.int p3), .val (.int p4), .val (.ref a5), .val (.ref a6), .val (.ref a7), .val (.int p8)] [(.ref a5), (.ref a1)]))
  obtain ⟨T149, h149, X149, e149, W149, st149⟩ := putF X147 hx hZ hown (host := "") (Or.inl (hw _ (List.mem_of_getElem? (i := 70) rfl))) Via.refl e147 (((F_3.other W143 (Or.inr (slot_ne (Or.inr (hw _ (List.mem_of_getElem? (i := 71) rfl))) (Or.inr (hw _ (List.mem_of_getElem? (i := 65) rfl))) (by decide) (t := (.object "java/lang/String")) (t' := (.object "java/lang/Integer")) (by decide) (by decide)))).other W145 (Or.inr (slot_ne (Or.inr (hw _ (List.mem_of_getElem? (i := 71) rfl))) (Or.inr (hw _ (List.mem_of_getElem? (i := 67) rfl))) (by decide) (t := (.object "java/lang/String")) (t' := .int) (by decide) (by decide)))).other W147 (Or.inr (slot_ne (Or.inr (hw _ (List.mem_of_getElem? (i := 71) rfl))) (Or.inr (hw _ (List.mem_of_getElem? (i := 69) rfl))) (by decide) (t := (.object "java/lang/String")) (t' := .int) (by decide) (by decide)))) (((E1.wr W143).wr W145).wr W147) (Or.inr ⟨(hw _ (List.mem_of_getElem? (i := 71) rfl)), rfl, hnm⟩) (hw _ (List.mem_of_getElem? (i := 58) rfl)) (ty := (.object "java/lang/String")) (by decide) rfl rfl (g := (mkF m 22 #[.val (.ref a1), .val v2, .val (.int p3), .val (.int p4), .val (.ref a5), .val (.ref a6), .val (.ref a7), .val (.int p8)] [(.ref a5), (.ref a1)])) rfl rfl (hb hby d10_22)
  have zs150 := Nat.le_trans zs148 (Keep.of_wr W149).1
  have kp150 : Keep h0 h149 [a1] := kp148.wr W149 (Or.inl (List.mem_of_getElem? (i := 0) rfl))
  have Fw149 := ((((F_3.other W143 (Or.inr (slot_ne (Or.inr (hw _ (List.mem_of_getElem? (i := 71) rfl))) (Or.inr (hw _ (List.mem_of_getElem? (i := 65) rfl))) (by decide) (t := (.object "java/lang/String")) (t' := (.object "java/lang/Integer")) (by decide) (by decide)))).other W145 (Or.inr (slot_ne (Or.inr (hw _ (List.mem_of_getElem? (i := 71) rfl))) (Or.inr (hw _ (List.mem_of_getElem? (i := 67) rfl))) (by decide) (t := (.object "java/lang/String")) (t' := .int) (by decide) (by decide)))).other W147 (Or.inr (slot_ne (Or.inr (hw _ (List.mem_of_getElem? (i := 71) rfl))) (Or.inr (hw _ (List.mem_of_getElem? (i := 69) rfl))) (by decide) (t := (.object "java/lang/String")) (t' := .int) (by decide) (by decide))))).same W149
  have N149 := Fr.snoc X149 N147 g1
  refine own_go ?_ (fun tq kt => st149 _ kt)
  show own_Fin _ _ _ _ (T149.setTop (mkF m 25 #[.val (.ref a1), .val v2, .val (.int p3), .val (.int p4), .val (.ref a5), .val (.ref a6), .val (.ref a7), .val (.int p8)] []))
  refine own_go ?_ (fun tq kt => XS.aloadN X149.here hx rfl (hb hby d10_25) rfl rfl kt)
  show own_Fin _ _ _ _ (T149.setTop (mkF m 26 #[.val (.ref a1), .val v2, .val (.int p3), .val (.int p4), .val (.ref a5), .val (.ref a6), .val (.ref a7), .val (.int p8)] [(.ref a1)]))
  refine own_go ?_ (fun tq kt => XS.aload X149.here hx rfl (hb hby d10_26) rfl rfl kt)
  show own_Fin _ _ _ _ (T149.setTop (mkF m 28 #[.val (.ref a1), .val v2, .val (.int p3), .val (.int p4), .val (.ref a5), .val (.ref a6), .val (.ref a7), .val (.int p8)] [(.ref a6), (.ref a1)]))
  obtain ⟨_, _, ⟨T151, L151, k151, n151⟩, -, X151, ⟨Lc151, hQ151, l151, y151, z151⟩, st151⟩ := Jvm.LawKit.callS X149 hx (y := (⟨"java/util/Collections", "unmodifiableList", "(Ljava/util/List;)Ljava/util/List;"⟩ : MethodName)) hown (mvT hZ (hw _ (List.mem_of_getElem? (i := 72) rfl))) (mvT hZ (hw _ (List.mem_of_getElem? (i := 73) rfl))) (mvT hZ (hw _ (List.mem_of_getElem? (i := 74) rfl))) (mvT hZ (hw _ (List.mem_of_getElem? (i := 75) rfl))) (by decide) (backOf (W := 1) (rm11 l Z a0 hw [] a6 mA mL mR h149 n0 zs150 ((((E6.wr W143).wr W145).wr W147).wr W149) MA ML MR) hZ (hw _ (List.mem_of_getElem? (i := 75) rfl)) (hw _ (List.mem_of_getElem? (i := 74) rfl)) (by decide) (by decide)) (g := (mkF m 28 #[.val (.ref a1), .val v2, .val (.int p3), .val (.int p4), .val (.ref a5), .val (.ref a6), .val (.ref a7), .val (.int p8)] [(.ref a6), (.ref a1)])) rfl (by rw [hml]; rfl) (argsL := [(.ref a6)]) (rest := [(.ref a1)]) (lenOf own_pd7 rfl) rfl (by show 2 * 0 + _ ≤ _; exact Nat.le_of_eq rfl) (hb hby d10_28) (fun _ _ => ⟨rfl, e149, (by decide : 0 + 1 ≤ _), (by decide : 0 + 2 ≤ _)⟩)
  dsimp only [Pt.U, Pt.locs, Pt.cells, Pt.slots] at X151 l151 y151 z151 st151 hQ151
  subst l151 y151 z151
  obtain ⟨x151, rfl, N151q, E151⟩ := hQ151
  have N151 := Fr.app N149 N151q
  obtain ⟨h151, e151⟩ : ∃ z, z = T151.heap := ⟨_, rfl⟩
  have e151' := e151.symm
  rw [← e151] at E151
  have zs152 := Nat.le_trans zs150 E151.1
  have kp152 : Keep h0 h151 [a1] := kp150.ext E151
  refine own_go ?_ (fun tq kt => st151 _ kt)
  show own_Fin _ _ _ _ (T151.setTop (mkF m 31 #[.val (.ref a1), .val v2, .val (.int p3), .val (.int p4), .val (.ref a5), .val (.ref a6), .val (.ref a7), .val (.int p8)] [(.ref x151), (.ref a1)]))
  obtain ⟨T153, h153, X153, e153, W153, st153⟩ := putF X151 hx hZ hown (host := "") (Or.inl (hw _ (List.mem_of_getElem? (i := 115) rfl))) Via.refl e151' (((((F_4.other W143 (Or.inr (slot_ne (Or.inr (hw _ (List.mem_of_getElem? (i := 116) rfl))) (Or.inr (hw _ (List.mem_of_getElem? (i := 65) rfl))) (by decide) (t := (.object "java/util/List")) (t' := (.object "java/lang/Integer")) (by decide) (by decide)))).other W145 (Or.inr (slot_ne (Or.inr (hw _ (List.mem_of_getElem? (i := 116) rfl))) (Or.inr (hw _ (List.mem_of_getElem? (i := 67) rfl))) (by decide) (t := (.object "java/util/List")) (t' := .int) (by decide) (by decide)))).other W147 (Or.inr (slot_ne (Or.inr (hw _ (List.mem_of_getElem? (i := 116) rfl))) (Or.inr (hw _ (List.mem_of_getElem? (i := 69) rfl))) (by decide) (t := (.object "java/util/List")) (t' := .int) (by decide) (by decide)))).other W149 (Or.inr (slot_ne (Or.inr (hw _ (List.mem_of_getElem? (i := 116) rfl))) (Or.inr (hw _ (List.mem_of_getElem? (i := 71) rfl))) (by decide) (t := (.object "java/util/List")) (t' := (.object "java/lang/String")) (by decide) (by decide)))).ext E151) (((((E1.wr W143).wr W145).wr W147).wr W149).ext E151) (Or.inr ⟨(hw _ (List.mem_of_getElem? (i := 116) rfl)), rfl, hnm⟩) (hw _ (List.mem_of_getElem? (i := 58) rfl)) (ty := (.object "java/util/List")) (by decide) rfl rfl (g := (mkF m 31 #[.val (.ref a1), .val v2, .val (.int p3), .val (.int p4), .val (.ref a5), .val (.ref a6), .val (.ref a7), .val (.int p8)] [(.ref x151), (.ref a1)])) rfl rfl (hb hby d10_31)
  have zs154 := Nat.le_trans zs152 (Keep.of_wr W153).1
  have kp154 : Keep h0 h153 [a1] := kp152.wr W153 (Or.inl (List.mem_of_getElem? (i := 0) rfl))
  have Fw153 := ((((((F_4.other W143 (Or.inr (slot_ne (Or.inr (hw _ (List.mem_of_getElem? (i := 116) rfl))) (Or.inr (hw _ (List.mem_of_getElem? (i := 65) rfl))) (by decide) (t := (.object "java/util/List")) (t' := (.object "java/lang/Integer")) (by decide) (by decide)))).other W145 (Or.inr (slot_ne (Or.inr (hw _ (List.mem_of_getElem? (i := 116) rfl))) (Or.inr (hw _ (List.mem_of_getElem? (i := 67) rfl))) (by decide) (t := (.object "java/util/List")) (t' := .int) (by decide) (by decide)))).other W147 (Or.inr (slot_ne (Or.inr (hw _ (List.mem_of_getElem? (i := 116) rfl))) (Or.inr (hw _ (List.mem_of_getElem? (i := 69) rfl))) (by decide) (t := (.object "java/util/List")) (t' := .int) (by decide) (by decide)))).other W149 (Or.inr (slot_ne (Or.inr (hw _ (List.mem_of_getElem? (i := 116) rfl))) (Or.inr (hw _ (List.mem_of_getElem? (i := 71) rfl))) (by decide) (t := (.object "java/util/List")) (t' := (.object "java/lang/String")) (by decide) (by decide)))).ext E151)).same W153
  have N153 := Fr.snoc X153 N151 g1
  refine own_go ?_ (fun tq kt => st153 _ kt)
  show own_Fin _ _ _ _ (T153.setTop (mkF m 34 #[.val (.ref a1), .val v2, .val (.int p3), .val (.int p4), .val (.ref a5), .val (.ref a6), .val (.ref a7), .val (.int p8)] []))
  refine own_go ?_ (fun tq kt => XS.aloadN X153.here hx rfl (hb hby d10_34) rfl rfl kt)
  show own_Fin _ _ _ _ (T153.setTop (mkF m 35 #[.val (.ref a1), .val v2, .val (.int p3), .val (.int p4), .val (.ref a5), .val (.ref a6), .val (.ref a7), .val (.int p8)] [(.ref a1)]))
  refine own_go ?_ (fun tq kt => XS.aload X153.here hx rfl (hb hby d10_35) rfl rfl kt)
  show own_Fin _ _ _ _ (T153.setTop (mkF m 37 #[.val (.ref a1), .val v2, .val (.int p3), .val (.int p4), .val (.ref a5), .val (.ref a6), .val (.ref a7), .val (.int p8)] [(.ref a7), (.ref a1)]))
  obtain ⟨_, _, ⟨T155, L155, k155, n155⟩, -, X155, ⟨Lc155, hQ155, l155, y155, z155⟩, st155⟩ := Jvm.LawKit.callS X153 hx (y := (⟨"java/util/Collections", "unmodifiableList", "(Ljava/util/List;)Ljava/util/List;"⟩ : MethodName)) hown (mvT hZ (hw _ (List.mem_of_getElem? (i := 72) rfl))) (mvT hZ (hw _ (List.mem_of_getElem? (i := 73) rfl))) (mvT hZ (hw _ (List.mem_of_getElem? (i := 74) rfl))) (mvT hZ (hw _ (List.mem_of_getElem? (i := 75) rfl))) (by decide) (backOf (W := 1) (rm11 l Z a0 hw [] a7 mA mL mR h153 n0 zs154 ((((((E7.wr W143).wr W145).wr W147).wr W149).ext E151).wr W153) MA ML MR) hZ (hw _ (List.mem_of_getElem? (i := 75) rfl)) (hw _ (List.mem_of_getElem? (i := 74) rfl)) (by decide) (by decide)) (g := (mkF m 37 #[.val (.ref a1), .val v2, .val (.int p3), .val (.int p4), .val (.ref a5), .val (.ref a6), .val (.ref a7), .val (.int p8)] [(.ref a7), (.ref a1)])) rfl (by rw [hml]; rfl) (argsL := [(.ref a7)]) (rest := [(.ref a1)]) (lenOf own_pd7 rfl) rfl (by show 2 * 0 + _ ≤ _; exact Nat.le_of_eq rfl) (hb hby d10_37) (fun _ _ => ⟨rfl, e153, (by decide : 1 + 1 ≤ _), (by decide : 2 + 2 ≤ _)⟩)
  dsimp only [Pt.U, Pt.locs, Pt.cells, Pt.slots] at X155 l155 y155 z155 st155 hQ155
  subst l155 y155 z155
  obtain ⟨x155, rfl, N155q, E155⟩ := hQ155
  have N155 := Fr.app N153 N155q
  obtain ⟨h155, e155⟩ : ∃ z, z = T155.heap := ⟨_, rfl⟩
  have e155' := e155.symm
  rw [← e155] at E155
  have zs156 := Nat.le_trans zs154 E155.1
  have kp156 : Keep h0 h155 [a1] := kp154.ext E155
  refine own_go ?_ (fun tq kt => st155 _ kt)
  show own_Fin _ _ _ _ (T155.setTop (mkF m 40 #[.val (.ref a1), .val v2, .val (.int p3), .val (.int p4), .val (.ref a5), .val (.ref a6), .val (.ref a7), .val (.int p8)] [(.ref x155), (.ref a1)]))
  obtain ⟨T157, h157, X157, e157, W157, st157⟩ := putF X155 hx hZ hown (host := "") (Or.inl (hw _ (List.mem_of_getElem? (i := 117) rfl))) Via.refl e155' (((((((F_5.other W143 (Or.inr (slot_ne (Or.inr (hw _ (List.mem_of_getElem? (i := 118) rfl))) (Or.inr (hw _ (List.mem_of_getElem? (i := 65) rfl))) (by decide) (t := (.object "java/util/List")) (t' := (.object "java/lang/Integer")) (by decide) (by decide)))).other W145 (Or.inr (slot_ne (Or.inr (hw _ (List.mem_of_getElem? (i := 118) rfl))) (Or.inr (hw _ (List.mem_of_getElem? (i := 67) rfl))) (by decide) (t := (.object "java/util/List")) (t' := .int) (by decide) (by decide)))).other W147 (Or.inr (slot_ne (Or.inr (hw _ (List.mem_of_getElem? (i := 118) rfl))) (Or.inr (hw _ (List.mem_of_getElem? (i := 69) rfl))) (by decide) (t := (.object "java/util/List")) (t' := .int) (by decide) (by decide)))).other W149 (Or.inr (slot_ne (Or.inr (hw _ (List.mem_of_getElem? (i := 118) rfl))) (Or.inr (hw _ (List.mem_of_getElem? (i := 71) rfl))) (by decide) (t := (.object "java/util/List")) (t' := (.object "java/lang/String")) (by decide) (by decide)))).ext E151).other W153 (Or.inr (slot_ne (Or.inr (hw _ (List.mem_of_getElem? (i := 118) rfl))) (Or.inr (hw _ (List.mem_of_getElem? (i := 116) rfl))) (by decide) (t := (.object "java/util/List")) (t' := (.object "java/util/List")) (by decide) (by decide)))).ext E155) (((((((E1.wr W143).wr W145).wr W147).wr W149).ext E151).wr W153).ext E155) (Or.inr ⟨(hw _ (List.mem_of_getElem? (i := 118) rfl)), rfl, hnm⟩) (hw _ (List.mem_of_getElem? (i := 58) rfl)) (ty := (.object "java/util/List")) (by decide) rfl rfl (g := (mkF m 40 #[.val (.ref a1), .val v2, .val (.int p3), .val (.int p4), .val (.ref a5), .val (.ref a6), .val (.ref a7), .val (.int p8)] [(.ref x155), (.ref a1)])) rfl rfl (hb hby d10_40)
  have zs158 := Nat.le_trans zs156 (Keep.of_wr W157).1
  have kp158 : Keep h0 h157 [a1] := kp156.wr W157 (Or.inl (List.mem_of_getElem? (i := 0) rfl))
  have Fw157 := ((((((((F_5.other W143 (Or.inr (slot_ne (Or.inr (hw _ (List.mem_of_getElem? (i := 118) rfl))) (Or.inr (hw _ (List.mem_of_getElem? (i := 65) rfl))) (by decide) (t := (.object "java/util/List")) (t' := (.object "java/lang/Integer")) (by decide) (by decide)))).other W145 (Or.inr (slot_ne (Or.inr (hw _ (List.mem_of_getElem? (i := 118) rfl))) (Or.inr (hw _ (List.mem_of_getElem? (i := 67) rfl))) (by decide) (t := (.object "java/util/List")) (t' := .int) (by decide) (by decide)))).other W147 (Or.inr (slot_ne (Or.inr (hw _ (List.mem_of_getElem? (i := 118) rfl))) (Or.inr (hw _ (List.mem_of_getElem? (i := 69) rfl))) (by decide) (t := (.object "java/util/List")) (t' := .int) (by decide) (by decide)))).other W149 (Or.inr (slot_ne (Or.inr (hw _ (List.mem_of_getElem? (i := 118) rfl))) (Or.inr (hw _ (List.mem_of_getElem? (i := 71) rfl))) (by decide) (t := (.object "java/util/List")) (t' := (.object "java/lang/String")) (by decide) (by decide)))).ext E151).other W153 (Or.inr (slot_ne (Or.inr (hw _ (List.mem_of_getElem? (i := 118) rfl))) (Or.inr (hw _ (List.mem_of_getElem? (i := 116) rfl))) (by decide) (t := (.object "java/util/List")) (t' := (.object "java/util/List")) (by decide) (by decide)))).ext E155)).same W157
  have N157 := Fr.snoc X157 N155 g1
  refine own_go ?_ (fun tq kt => st157 _ kt)
  show own_Fin _ _ _ _ (T157.setTop (mkF m 43 #[.val (.ref a1), .val v2, .val (.int p3), .val (.int p4), .val (.ref a5), .val (.ref a6), .val (.ref a7), .val (.int p8)] []))
  refine own_go ?_ (fun tq kt => XS.aloadN X157.here hx rfl (hb hby d10_43) rfl rfl kt)
  show own_Fin _ _ _ _ (T157.setTop (mkF m 44 #[.val (.ref a1), .val v2, .val (.int p3), .val (.int p4), .val (.ref a5), .val (.ref a6), .val (.ref a7), .val (.int p8)] [(.ref a1)]))
  refine own_go ?_ (fun tq kt => XS.iload X157.here hx rfl (hb hby d10_44) rfl kt)
  show own_Fin _ _ _ _ (T157.setTop (mkF m 46 #[.val (.ref a1), .val v2, .val (.int p3), .val (.int p4), .val (.ref a5), .val (.ref a6), .val (.ref a7), .val (.int p8)] [(.int p8), (.ref a1)]))
  obtain ⟨T159, h159, X159, e159, W159, st159⟩ := putFN X157 hx hZ hown (hw _ (List.mem_of_getElem? (i := 119) rfl)) Via.refl e157 ((((((((F_6.other W143 (Or.inr (slot_ne (Or.inr (hw _ (List.mem_of_getElem? (i := 120) rfl))) (Or.inr (hw _ (List.mem_of_getElem? (i := 65) rfl))) (by decide) (t := .boolean) (t' := (.object "java/lang/Integer")) (by decide) (by decide)))).other W145 (Or.inr (slot_ne (Or.inr (hw _ (List.mem_of_getElem? (i := 120) rfl))) (Or.inr (hw _ (List.mem_of_getElem? (i := 67) rfl))) (by decide) (t := .boolean) (t' := .int) (by decide) (by decide)))).other W147 (Or.inr (slot_ne (Or.inr (hw _ (List.mem_of_getElem? (i := 120) rfl))) (Or.inr (hw _ (List.mem_of_getElem? (i := 69) rfl))) (by decide) (t := .boolean) (t' := .int) (by decide) (by decide)))).other W149 (Or.inr (slot_ne (Or.inr (hw _ (List.mem_of_getElem? (i := 120) rfl))) (Or.inr (hw _ (List.mem_of_getElem? (i := 71) rfl))) (by decide) (t := .boolean) (t' := (.object "java/lang/String")) (by decide) (by decide)))).ext E151).other W153 (Or.inr (slot_ne (Or.inr (hw _ (List.mem_of_getElem? (i := 120) rfl))) (Or.inr (hw _ (List.mem_of_getElem? (i := 116) rfl))) (by decide) (t := .boolean) (t' := (.object "java/util/List")) (by decide) (by decide)))).ext E155).other W157 (Or.inr (slot_ne (Or.inr (hw _ (List.mem_of_getElem? (i := 120) rfl))) (Or.inr (hw _ (List.mem_of_getElem? (i := 118) rfl))) (by decide) (t := .boolean) (t' := (.object "java/util/List")) (by decide) (by decide)))) ((((((((E1.wr W143).wr W145).wr W147).wr W149).ext E151).wr W153).ext E155).wr W157) (Or.inr ⟨(hw _ (List.mem_of_getElem? (i := 120) rfl)), rfl, hnm⟩) (hw _ (List.mem_of_getElem? (i := 58) rfl)) (ty := .boolean) (v' := (.int (nar .boolean p8))) (by decide) rfl (fits_nar_bool _) (g := (mkF m 46 #[.val (.ref a1), .val v2, .val (.int p3), .val (.int p4), .val (.ref a5), .val (.ref a6), .val (.ref a7), .val (.int p8)] [(.int p8), (.ref a1)])) rfl rfl (hb hby d10_46)
  have zs160 := Nat.le_trans zs158 (Keep.of_wr W159).1
  have kp160 : Keep h0 h159 [a1] := kp158.wr W159 (Or.inl (List.mem_of_getElem? (i := 0) rfl))
  have Fw159 := (((((((((F_6.other W143 (Or.inr (slot_ne (Or.inr (hw _ (List.mem_of_getElem? (i := 120) rfl))) (Or.inr (hw _ (List.mem_of_getElem? (i := 65) rfl))) (by decide) (t := .boolean) (t' := (.object "java/lang/Integer")) (by decide) (by decide)))).other W145 (Or.inr (slot_ne (Or.inr (hw _ (List.mem_of_getElem? (i := 120) rfl))) (Or.inr (hw _ (List.mem_of_getElem? (i := 67) rfl))) (by decide) (t := .boolean) (t' := .int) (by decide) (by decide)))).other W147 (Or.inr (slot_ne (Or.inr (hw _ (List.mem_of_getElem? (i := 120) rfl))) (Or.inr (hw _ (List.mem_of_getElem? (i := 69) rfl))) (by decide) (t := .boolean) (t' := .int) (by decide) (by decide)))).other W149 (Or.inr (slot_ne (Or.inr (hw _ (List.mem_of_getElem? (i := 120) rfl))) (Or.inr (hw _ (List.mem_of_getElem? (i := 71) rfl))) (by decide) (t := .boolean) (t' := (.object "java/lang/String")) (by decide) (by decide)))).ext E151).other W153 (Or.inr (slot_ne (Or.inr (hw _ (List.mem_of_getElem? (i := 120) rfl))) (Or.inr (hw _ (List.mem_of_getElem? (i := 116) rfl))) (by decide) (t := .boolean) (t' := (.object "java/util/List")) (by decide) (by decide)))).ext E155).other W157 (Or.inr (slot_ne (Or.inr (hw _ (List.mem_of_getElem? (i := 120) rfl))) (Or.inr (hw _ (List.mem_of_getElem? (i := 118) rfl))) (by decide) (t := .boolean) (t' := (.object "java/util/List")) (by decide) (by decide))))).same W159
  have N159 := Fr.snoc X159 N157 g1
  refine own_go ?_ (fun tq kt => st159 _ kt)
  show own_Fin _ _ _ _ (T159.setTop (mkF m 49 #[.val (.ref a1), .val v2, .val (.int p3), .val (.int p4), .val (.ref a5), .val (.ref a6), .val (.ref a7), .val (.int p8)] []))
  refine own_retV X159 hx Bd.returns (hb hby d10_49) hlk ?_ (by decide) (by decide)
  show QC10 Z a1 v2 p3 p4 a5 a6 a7 p8 mA mL mR h0 n0 _ T159.heap _
  rw [e159]
  exact ⟨rfl, N159, kp160, ((((((((Fw143.other W145 (Or.inr (slot_ne (Or.inr (hw _ (List.mem_of_getElem? (i := 65) rfl))) (Or.inr (hw _ (List.mem_of_getElem? (i := 67) rfl))) (by decide) (t := (.object "java/lang/Integer")) (t' := .int) (by decide) (by decide)))).other W147 (Or.inr (slot_ne (Or.inr (hw _ (List.mem_of_getElem? (i := 65) rfl))) (Or.inr (hw _ (List.mem_of_getElem? (i := 69) rfl))) (by decide) (t := (.object "java/lang/Integer")) (t' := .int) (by decide) (by decide)))).other W149 (Or.inr (slot_ne (Or.inr (hw _ (List.mem_of_getElem? (i := 65) rfl))) (Or.inr (hw _ (List.mem_of_getElem? (i := 71) rfl))) (by decide) (t := (.object "java/lang/Integer")) (t' := (.object "java/lang/String")) (by decide) (by decide)))).ext E151).other W153 (Or.inr (slot_ne (Or.inr (hw _ (List.mem_of_getElem? (i := 65) rfl))) (Or.inr (hw _ (List.mem_of_getElem? (i := 116) rfl))) (by decide) (t := (.object "java/lang/Integer")) (t' := (.object "java/util/List")) (by decide) (by decide)))).ext E155).other W157 (Or.inr (slot_ne (Or.inr (hw _ (List.mem_of_getElem? (i := 65) rfl))) (Or.inr (hw _ (List.mem_of_getElem? (i := 118) rfl))) (by decide) (t := (.object "java/lang/Integer")) (t' := (.object "java/util/List")) (by decide) (by decide)))).other W159 (Or.inr (slot_ne (Or.inr (hw _ (List.mem_of_getElem? (i := 65) rfl))) (Or.inr (hw _ (List.mem_of_getElem? (i := 120) rfl))) (by decide) (t := (.object "java/lang/Integer")) (t' := .boolean) (by decide) (by decide)))), (((((((Fw145.other W147 (Or.inr (slot_ne (Or.inr (hw _ (List.mem_of_getElem? (i := 67) rfl))) (Or.inr (hw _ (List.mem_of_getElem? (i := 69) rfl))) (by decide) (t := .int) (t' := .int) (by decide) (by decide)))).other W149 (Or.inr (slot_ne (Or.inr (hw _ (List.mem_of_getElem? (i := 67) rfl))) (Or.inr (hw _ (List.mem_of_getElem? (i := 71) rfl))) (by decide) (t := .int) (t' := (.object "java/lang/String")) (by decide) (by decide)))).ext E151).other W153 (Or.inr (slot_ne (Or.inr (hw _ (List.mem_of_getElem? (i := 67) rfl))) (Or.inr (hw _ (List.mem_of_getElem? (i := 116) rfl))) (by decide) (t := .int) (t' := (.object "java/util/List")) (by decide) (by decide)))).ext E155).other W157 (Or.inr (slot_ne (Or.inr (hw _ (List.mem_of_getElem? (i := 67) rfl))) (Or.inr (hw _ (List.mem_of_getElem? (i := 118) rfl))) (by decide) (t := .int) (t' := (.object "java/util/List")) (by decide) (by decide)))).other W159 (Or.inr (slot_ne (Or.inr (hw _ (List.mem_of_getElem? (i := 67) rfl))) (Or.inr (hw _ (List.mem_of_getElem? (i := 120) rfl))) (by decide) (t := .int) (t' := .boolean) (by decide) (by decide)))), ((((((Fw147.other W149 (Or.inr (slot_ne (Or.inr (hw _ (List.mem_of_getElem? (i := 69) rfl))) (Or.inr (hw _ (List.mem_of_getElem? (i := 71) rfl))) (by decide) (t := .int) (t' := (.object "java/lang/String")) (by decide) (by decide)))).ext E151).other W153 (Or.inr (slot_ne (Or.inr (hw _ (List.mem_of_getElem? (i := 69) rfl))) (Or.inr (hw _ (List.mem_of_getElem? (i := 116) rfl))) (by decide) (t := .int) (t' := (.object "java/util/List")) (by decide) (by decide)))).ext E155).other W157 (Or.inr (slot_ne (Or.inr (hw _ (List.mem_of_getElem? (i := 69) rfl))) (Or.inr (hw _ (List.mem_of_getElem? (i := 118) rfl))) (by decide) (t := .int) (t' := (.object "java/util/List")) (by decide) (by decide)))).other W159 (Or.inr (slot_ne (Or.inr (hw _ (List.mem_of_getElem? (i := 69) rfl))) (Or.inr (hw _ (List.mem_of_getElem? (i := 120) rfl))) (by decide) (t := .int) (t' := .boolean) (by decide) (by decide)))), (((((Fw149.ext E151).other W153 (Or.inr (slot_ne (Or.inr (hw _ (List.mem_of_getElem? (i := 71) rfl))) (Or.inr (hw _ (List.mem_of_getElem? (i := 116) rfl))) (by decide) (t := (.object "java/lang/String")) (t' := (.object "java/util/List")) (by decide) (by decide)))).ext E155).other W157 (Or.inr (slot_ne (Or.inr (hw _ (List.mem_of_getElem? (i := 71) rfl))) (Or.inr (hw _ (List.mem_of_getElem? (i := 118) rfl))) (by decide) (t := (.object "java/lang/String")) (t' := (.object "java/util/List")) (by decide) (by decide)))).other W159 (Or.inr (slot_ne (Or.inr (hw _ (List.mem_of_getElem? (i := 71) rfl))) (Or.inr (hw _ (List.mem_of_getElem? (i := 120) rfl))) (by decide) (t := (.object "java/lang/String")) (t' := .boolean) (by decide) (by decide)))), Fw159⟩
theorem d18_0 : decode jdk_2649_method_3_code 0 = .ok (.aload_n 0, 1) := by decide +kernel
theorem d18_1 : decode jdk_2649_method_3_code 1 = .ok (.invokespecial 1, 3) := by decide +kernel
theorem d18_4 : decode jdk_2649_method_3_code 4 = .ok (.aload_n 0, 1) := by decide +kernel
theorem d18_5 : decode jdk_2649_method_3_code 5 = .ok (.iconst 1, 1) := by decide +kernel
theorem d18_6 : decode jdk_2649_method_3_code 6 = .ok (.putfield 7, 3) := by decide +kernel
theorem d18_9 : decode jdk_2649_method_3_code 9 = .ok (.aload_n 0, 1) := by decide +kernel
theorem d18_10 : decode jdk_2649_method_3_code 10 = .ok (.iload_n 1, 1) := by decide +kernel
theorem d18_11 : decode jdk_2649_method_3_code 11 = .ok (.putfield 13, 3) := by decide +kernel
theorem d18_14 : decode jdk_2649_method_3_code 14 = .ok (.return_, 1) := by decide +kernel
theorem pn_18 : plainFor (⟨"java/util/OptionalInt", "<init>", "(I)V"⟩ : MethodName) = true := plainFor_of_name (by first | (simp [plainName, overriddenIn]; done) | decide +kernel)
set_option maxRecDepth 65536 in
set_option maxHeartbeats 40000000 in
theorem rm18 (l : Launch) (Z : State) (a0 : Array Value) (hw : ∀ d ∈ tables_1, d.before a0 Z = true) (ws : List Jvm.Cond) (a1 : Addr) (p2 : Int32)  (h0 : Heap) (n0 : Nat) (Z0 : n0 ≤ h0.size) (E1 : Exa Z h0 a1 "java/util/OptionalInt") (F_0 : Fld Z h0 a1 "java/util/OptionalInt" "isPresent" "Z" (.int (0 : Int32))) (F_1 : Fld Z h0 a1 "java/util/OptionalInt" "value" "I" (.int (0 : Int32))) (g1 : n0 ≤ a1) :
    MetFree l (⟨"java/util/OptionalInt", "<init>", "(I)V"⟩ : MethodName) (head1 (Jvm.Cond.code (⟨"java/util/OptionalInt", "<init>", "(I)V"⟩ : MethodName) jdk_2649_method_3_code 2 none :: ws) ({ frames := 1, cells := 0, slots := 0, locals := 12 } : Room)) (fun a U => a = #[(.ref a1), (.int p2)] ∧ Z.Warmed39 U.vm ∧ U.heap = h0) (fun _ _ _ _ _ => True) (fun _ U o U' => ∃ v L, o = .returned v ∧ QC18 Z a1 p2 h0 n0 v U'.heap L ∧ FrameEnd U o U' L ({ frames := 1, cells := 0, slots := 0, locals := 12 } : Room).cells ({ frames := 1, cells := 0, slots := 0, locals := 12 } : Room).slots) := by
  refine MetFree.of_bodySF pn_18 hisR ?_
  intro p e s m args below meth c s₁ Bd hml0 hP hK
  obtain ⟨rfl, hZ, hh⟩ := hP
  have hx := Bd.exec
  have hby := Bd.bytes
  have hml : c.maxLocals = 2 := hml0
  have hown : s.vm.findClass "java/util/OptionalInt" = some m.cls := findClass_of_methodNamed Bd.named
  have hnm := (name_of_methodNamed Bd.named Bd.method).1
  have hlk : meth.locks = false := BodyLoose.notSynchronized Bd
  have X0 : Stand p l e ({ frames := 1, cells := 0, slots := 0, locals := 12 } : Room) s m #[(.ref a1), (.int p2)] below meth c s₁ [] 0 0 := Stand.of_body Bd
  have e0 : s₁.heap = h0 := by rw [← hh, Bd.state]; rfl
  have N0 := Fr.nil n0
  show own_Fin p e below (own_P (QC18 Z a1 p2 h0 n0) s ({ frames := 1, cells := 0, slots := 0, locals := 12 } : Room).cells ({ frames := 1, cells := 0, slots := 0, locals := 12 } : Room).slots) (s₁.setTop (entryFrame m #[(.ref a1), (.int p2)] 2))
  rw [show entryFrame m #[(.ref a1), (.int p2)] 2 = mkF m 0 #[.val (.ref a1), .val (.int p2)] [] from by first | (simp [entryFrame, mkF, argsToLocals, Value.category]; done) | rfl]
  have kp0 := Keep.refl h0 [a1]
  refine own_go ?_ (fun tq kt => XS.aloadN X0.here hx rfl (hb hby d18_0) rfl rfl kt)
  show own_Fin _ _ _ _ (s₁.setTop (mkF m 1 #[.val (.ref a1), .val (.int p2)] [(.ref a1)]))
  obtain ⟨T166, X166, e166, st166⟩ := initO X0 hx hZ hown (hw _ (List.mem_of_getElem? (i := 143) rfl)) (hw _ (List.mem_of_getElem? (i := 26) rfl)) (hw _ (List.mem_of_getElem? (i := 27) rfl)) e0 (g := (mkF m 1 #[.val (.ref a1), .val (.int p2)] [(.ref a1)])) rfl (by rw [hml]; rfl) rfl (hb hby d18_1) (by decide) (W := 0) (by show 2 * 0 + _ ≤ _; exact Nat.le_of_eq rfl) (by decide)
  refine own_go ?_ (fun tq kt => st166 _ kt)
  show own_Fin _ _ _ _ (T166.setTop (mkF m 4 #[.val (.ref a1), .val (.int p2)] []))
  refine own_go ?_ (fun tq kt => XS.aloadN X166.here hx rfl (hb hby d18_4) rfl rfl kt)
  show own_Fin _ _ _ _ (T166.setTop (mkF m 5 #[.val (.ref a1), .val (.int p2)] [(.ref a1)]))
  refine own_go ?_ (fun tq kt => XS.iconst X166.here hx rfl (hb hby d18_5) kt)
  show own_Fin _ _ _ _ (T166.setTop (mkF m 6 #[.val (.ref a1), .val (.int p2)] [(.int (1 : Int32)), (.ref a1)]))
  obtain ⟨T167, h167, X167, e167, W167, st167⟩ := putFN X166 hx hZ hown (hw _ (List.mem_of_getElem? (i := 144) rfl)) Via.refl e166 F_0 E1 (Or.inr ⟨(hw _ (List.mem_of_getElem? (i := 145) rfl)), rfl, hnm⟩) (hw _ (List.mem_of_getElem? (i := 138) rfl)) (ty := .boolean) (v' := (.int (1 : Int32))) (by decide) rfl rfl (g := (mkF m 6 #[.val (.ref a1), .val (.int p2)] [(.int (1 : Int32)), (.ref a1)])) rfl rfl (hb hby d18_6)
  have zs168 := Nat.le_trans Z0 (Keep.of_wr W167).1
  have kp168 : Keep h0 h167 [a1] := kp0.wr W167 (Or.inl (List.mem_of_getElem? (i := 0) rfl))
  have Fw167 := (F_0).same W167
  have N167 := Fr.snoc X167 N0 g1
  refine own_go ?_ (fun tq kt => st167 _ kt)
  show own_Fin _ _ _ _ (T167.setTop (mkF m 9 #[.val (.ref a1), .val (.int p2)] []))
  refine own_go ?_ (fun tq kt => XS.aloadN X167.here hx rfl (hb hby d18_9) rfl rfl kt)
  show own_Fin _ _ _ _ (T167.setTop (mkF m 10 #[.val (.ref a1), .val (.int p2)] [(.ref a1)]))
  refine own_go ?_ (fun tq kt => XS.iloadN X167.here hx rfl (hb hby d18_10) rfl kt)
  show own_Fin _ _ _ _ (T167.setTop (mkF m 11 #[.val (.ref a1), .val (.int p2)] [(.int p2), (.ref a1)]))
  obtain ⟨T169, h169, X169, e169, W169, st169⟩ := putF X167 hx hZ hown (host := "") (Or.inl (hw _ (List.mem_of_getElem? (i := 146) rfl))) Via.refl e167 (F_1.other W167 (Or.inr (slot_ne (Or.inr (hw _ (List.mem_of_getElem? (i := 147) rfl))) (Or.inr (hw _ (List.mem_of_getElem? (i := 145) rfl))) (by decide) (t := .int) (t' := .boolean) (by decide) (by decide)))) (E1.wr W167) (Or.inr ⟨(hw _ (List.mem_of_getElem? (i := 147) rfl)), rfl, hnm⟩) (hw _ (List.mem_of_getElem? (i := 138) rfl)) (ty := .int) (by decide) rfl rfl (g := (mkF m 11 #[.val (.ref a1), .val (.int p2)] [(.int p2), (.ref a1)])) rfl rfl (hb hby d18_11)
  have zs170 := Nat.le_trans zs168 (Keep.of_wr W169).1
  have kp170 : Keep h0 h169 [a1] := kp168.wr W169 (Or.inl (List.mem_of_getElem? (i := 0) rfl))
  have Fw169 := ((F_1.other W167 (Or.inr (slot_ne (Or.inr (hw _ (List.mem_of_getElem? (i := 147) rfl))) (Or.inr (hw _ (List.mem_of_getElem? (i := 145) rfl))) (by decide) (t := .int) (t' := .boolean) (by decide) (by decide))))).same W169
  have N169 := Fr.snoc X169 N167 g1
  refine own_go ?_ (fun tq kt => st169 _ kt)
  show own_Fin _ _ _ _ (T169.setTop (mkF m 14 #[.val (.ref a1), .val (.int p2)] []))
  refine own_retV X169 hx Bd.returns (hb hby d18_14) hlk ?_ (by decide) (by decide)
  show QC18 Z a1 p2 h0 n0 _ T169.heap _
  rw [e169]
  exact ⟨rfl, N169, kp170, (Fw167.other W169 (Or.inr (slot_ne (Or.inr (hw _ (List.mem_of_getElem? (i := 145) rfl))) (Or.inr (hw _ (List.mem_of_getElem? (i := 147) rfl))) (by decide) (t := .boolean) (t' := .int) (by decide) (by decide)))), Fw169⟩
theorem d17_0 : decode jdk_2649_method_4_code 0 = .ok (.new 8, 3) := by decide +kernel
theorem d17_3 : decode jdk_2649_method_4_code 3 = .ok (.dup, 1) := by decide +kernel
theorem d17_4 : decode jdk_2649_method_4_code 4 = .ok (.iload_n 0, 1) := by decide +kernel
theorem d17_5 : decode jdk_2649_method_4_code 5 = .ok (.invokespecial 21, 3) := by decide +kernel
theorem d17_8 : decode jdk_2649_method_4_code 8 = .ok (.areturn, 1) := by decide +kernel
theorem pn_17 : plainFor (⟨"java/util/OptionalInt", "of", "(I)Ljava/util/OptionalInt;"⟩ : MethodName) = true := plainFor_of_name (by first | (simp [plainName, overriddenIn]; done) | decide +kernel)
set_option maxRecDepth 65536 in
set_option maxHeartbeats 40000000 in
theorem rm17 (l : Launch) (Z : State) (a0 : Array Value) (hw : ∀ d ∈ tables_1, d.before a0 Z = true) (ws : List Jvm.Cond) (p1 : Int32)  (h0 : Heap) (n0 : Nat) (Z0 : n0 ≤ h0.size) :
    MetFree l (⟨"java/util/OptionalInt", "of", "(I)Ljava/util/OptionalInt;"⟩ : MethodName) (head1 (Jvm.Cond.code (⟨"java/util/OptionalInt", "of", "(I)Ljava/util/OptionalInt;"⟩ : MethodName) jdk_2649_method_4_code 1 (some (.object "java/util/OptionalInt")) :: ws) ({ frames := 2, cells := 1, slots := 2, locals := 26 } : Room)) (fun a U => a = #[(.int p1)] ∧ Z.Warmed39 U.vm ∧ U.heap = h0) (fun _ _ _ _ _ => True) (fun _ U o U' => ∃ v L, o = .returned v ∧ QOI Z 1 p1 h0 n0 v U'.heap L ∧ FrameEnd U o U' L ({ frames := 2, cells := 1, slots := 2, locals := 26 } : Room).cells ({ frames := 2, cells := 1, slots := 2, locals := 26 } : Room).slots) := by
  refine MetFree.of_bodySF pn_17 hisR ?_
  intro p e s m args below meth c s₁ Bd hml0 hP hK
  obtain ⟨rfl, hZ, hh⟩ := hP
  have hx := Bd.exec
  have hby := Bd.bytes
  have hml : c.maxLocals = 1 := hml0
  have hown : s.vm.findClass "java/util/OptionalInt" = some m.cls := findClass_of_methodNamed Bd.named
  have hnm := (name_of_methodNamed Bd.named Bd.method).1
  have hlk : meth.locks = false := BodyLoose.notSynchronized Bd
  have X0 : Stand p l e ({ frames := 2, cells := 1, slots := 2, locals := 26 } : Room) s m #[(.int p1)] below meth c s₁ [] 0 0 := Stand.of_body Bd
  have e0 : s₁.heap = h0 := by rw [← hh, Bd.state]; rfl
  have N0 := Fr.nil n0
  show own_Fin p e below (own_P (QOI Z 1 p1 h0 n0) s ({ frames := 2, cells := 1, slots := 2, locals := 26 } : Room).cells ({ frames := 2, cells := 1, slots := 2, locals := 26 } : Room).slots) (s₁.setTop (entryFrame m #[(.int p1)] 1))
  rw [show entryFrame m #[(.int p1)] 1 = mkF m 0 #[.val (.int p1)] [] from by first | (simp [entryFrame, mkF, argsToLocals, Value.category]; done) | rfl]
  have kp0 := Keep.refl h0 []
  obtain ⟨T175, h175, X175, e175, E175, A175, D175, -, st175⟩ := newO X0 hx hZ hown (hw _ (List.mem_of_getElem? (i := 137) rfl)) (hw _ (List.mem_of_getElem? (i := 138) rfl)) (hw _ (List.mem_of_getElem? (i := 135) rfl)) e0 (g := (mkF m 0 #[.val (.int p1)] [])) rfl (hb hby d17_0) (by decide) (by decide)
  obtain ⟨b175, g175⟩ : ∃ z, z = h0.size := ⟨_, rfl⟩
  rw [← g175] at A175 D175 st175
  have zs176 := Nat.le_trans Z0 E175.1
  have kp176 : Keep h0 h175 [] := kp0.ext E175
  have g_b175 : n0 ≤ b175 := Nat.le_trans Z0 (Nat.le_of_eq g175.symm)
  have sz_b175 : h0.size ≤ b175 := Nat.le_trans kp0.1 (Nat.le_of_eq g175.symm)
  have F175_isPresent : Fld Z h175 b175 "java/util/OptionalInt" "isPresent" "Z" (.int (0 : Int32)) := D175 (Or.inr (hw _ (List.mem_of_getElem? (i := 145) rfl))) (ty := .boolean) (by decide)
  have F175_value : Fld Z h175 b175 "java/util/OptionalInt" "value" "I" (.int (0 : Int32)) := D175 (Or.inr (hw _ (List.mem_of_getElem? (i := 147) rfl))) (ty := .int) (by decide)
  refine own_go ?_ (fun tq kt => st175 _ kt)
  show own_Fin _ _ _ _ (T175.setTop (mkF m 3 #[.val (.int p1)] [(.ref b175)]))
  refine own_go ?_ (fun tq kt => XS.dup X175.here hx rfl (hb hby d17_3) rfl rfl kt)
  show own_Fin _ _ _ _ (T175.setTop (mkF m 4 #[.val (.int p1)] [(.ref b175), (.ref b175)]))
  refine own_go ?_ (fun tq kt => XS.iloadN X175.here hx rfl (hb hby d17_4) rfl kt)
  show own_Fin _ _ _ _ (T175.setTop (mkF m 5 #[.val (.int p1)] [(.int p1), (.ref b175), (.ref b175)]))
  obtain ⟨_, _, ⟨T177, L177, k177, n177⟩, -, X177, ⟨Lc177, hQ177, l177, y177, z177⟩, st177⟩ := X175.specialBack hx (y := (⟨"java/util/OptionalInt", "<init>", "(I)V"⟩ : MethodName)) rfl hown (mvT hZ (hw _ (List.mem_of_getElem? (i := 139) rfl))) (mvT hZ (hw _ (List.mem_of_getElem? (i := 140) rfl))) (mvT hZ (hw _ (List.mem_of_getElem? (i := 142) rfl))) (by decide) (backOf (W := 1) (rm18 l Z a0 hw [] b175 p1  h175 n0 zs176  A175 F175_isPresent F175_value g_b175  ) hZ (hw _ (List.mem_of_getElem? (i := 142) rfl)) (hw _ (List.mem_of_getElem? (i := 135) rfl)) (by decide) (by decide)) (g := (mkF m 5 #[.val (.int p1)] [(.int p1), (.ref b175), (.ref b175)])) rfl (by rw [hml]; rfl) (Steps.refl _) (a := b175) (argsL := [(.int p1)]) (rest := [(.ref b175)]) (lenOf own_pd1 rfl) rfl (by show 2 * 0 + _ ≤ _; exact Nat.le_of_eq rfl) (hb hby d17_5) (fun _ _ => ⟨rfl, e175, (by decide : 1 + 0 ≤ _), (by decide : 2 + 0 ≤ _)⟩)
  dsimp only [Pt.U, Pt.locs, Pt.cells, Pt.slots] at X177 l177 y177 z177 st177 hQ177
  subst l177 y177 z177
  obtain ⟨rfl, N177q, K177, F177_0, F177_1⟩ := hQ177
  have N177 := Fr.app N0 N177q
  obtain ⟨h177, e177⟩ : ∃ z, z = T177.heap := ⟨_, rfl⟩
  have e177' := e177.symm
  rw [← e177] at K177 F177_0 F177_1
  have zs178 := Nat.le_trans zs176 K177.1
  have kp178 : Keep h0 h177 [] := kp176.trans K177 (allS (Or.inr sz_b175) all0)
  refine own_go ?_ (fun tq kt => st177.trans kt)
  show own_Fin _ _ _ _ (T177.setTop (mkF m 8 #[.val (.int p1)] [(.ref b175)]))
  refine own_retO X177 hx (t := (.object "java/util/OptionalInt")) Bd.returns rfl (Or.inr (Or.inr (Or.inr (Or.inr ⟨rfl, rfl, rfl⟩)))) (hb hby d17_8) hlk ?_ (by decide) (by decide)
  show QOI Z 1 p1 h0 n0 _ T177.heap _
  rw [e177']
  exact ⟨_, rfl, N177, own_extK kp178, (A175.keep K177), F177_0, F177_1⟩
theorem d21_0 : decode jdk_2649_method_2_code 0 = .ok (.getstatic 17, 3) := by decide +kernel
theorem d21_3 : decode jdk_2649_method_2_code 3 = .ok (.areturn, 1) := by decide +kernel
theorem pn_21 : plainFor (⟨"java/util/OptionalInt", "empty", "()Ljava/util/OptionalInt;"⟩ : MethodName) = true := plainFor_of_name (by first | (simp [plainName, overriddenIn]; done) | decide +kernel)
set_option maxRecDepth 65536 in
set_option maxHeartbeats 40000000 in
theorem rm21 (l : Launch) (Z : State) (a0 : Array Value) (hw : ∀ d ∈ tables_1, d.before a0 Z = true) (ws : List Jvm.Cond)  (oe : Addr) (h0 : Heap) (n0 : Nat) (Z0 : n0 ≤ h0.size) (O0 : Old Z n0 h0) (SEM : Sta Z Z.heap "java/util/OptionalInt" "EMPTY" "Ljava/util/OptionalInt;" (.ref oe)) :
    MetFree l (⟨"java/util/OptionalInt", "empty", "()Ljava/util/OptionalInt;"⟩ : MethodName) (head1 (Jvm.Cond.code (⟨"java/util/OptionalInt", "empty", "()Ljava/util/OptionalInt;"⟩ : MethodName) jdk_2649_method_2_code 0 (some (.object "java/util/OptionalInt")) :: ws) ({ frames := 0, cells := 0, slots := 0, locals := 0 } : Room)) (fun a U => a = #[] ∧ Z.Warmed39 U.vm ∧ U.heap = h0) (fun _ _ _ _ _ => True) (fun _ U o U' => ∃ v L, o = .returned v ∧ QR (.ref oe) h0 n0 v U'.heap L ∧ FrameEnd U o U' L ({ frames := 0, cells := 0, slots := 0, locals := 0 } : Room).cells ({ frames := 0, cells := 0, slots := 0, locals := 0 } : Room).slots) := by
  refine MetFree.of_bodySF pn_21 hisR ?_
  intro p e s m args below meth c s₁ Bd hml0 hP hK
  obtain ⟨rfl, hZ, hh⟩ := hP
  have hx := Bd.exec
  have hby := Bd.bytes
  have hml : c.maxLocals = 0 := hml0
  have hown : s.vm.findClass "java/util/OptionalInt" = some m.cls := findClass_of_methodNamed Bd.named
  have hnm := (name_of_methodNamed Bd.named Bd.method).1
  have hlk : meth.locks = false := BodyLoose.notSynchronized Bd
  have X0 : Stand p l e ({ frames := 0, cells := 0, slots := 0, locals := 0 } : Room) s m #[] below meth c s₁ [] 0 0 := Stand.of_body Bd
  have e0 : s₁.heap = h0 := by rw [← hh, Bd.state]; rfl
  have N0 := Fr.nil n0
  show own_Fin p e below (own_P (QR (.ref oe) h0 n0) s ({ frames := 0, cells := 0, slots := 0, locals := 0 } : Room).cells ({ frames := 0, cells := 0, slots := 0, locals := 0 } : Room).slots) (s₁.setTop (entryFrame m #[] 0))
  rw [show entryFrame m #[] 0 = mkF m 0 #[] [] from by first | (simp [entryFrame, mkF, argsToLocals, Value.category]; done) | rfl]
  obtain ⟨T180, X180, e180, st180⟩ := getS2 X0 hx hZ hown (host := "") (Or.inl (hw _ (List.mem_of_getElem? (i := 161) rfl))) Via.refl e0 (SEM.ext O0.2) (g := (mkF m 0 #[] [])) rfl (hb hby d21_0)
  refine own_go ?_ (fun tq kt => st180 _ kt)
  show own_Fin _ _ _ _ (T180.setTop (mkF m 3 #[] [(.ref oe)]))
  refine own_retO X180 hx (t := (.object "java/util/OptionalInt")) Bd.returns rfl (Or.inr (Or.inr (Or.inr (Or.inr ⟨rfl, rfl, rfl⟩)))) (hb hby d21_3) hlk ?_ (by decide) (by decide)
  show QR (.ref oe) h0 n0 _ T180.heap _
  rw [e180]
  exact ⟨rfl, N0, rfl⟩
theorem d16_0 : decode jdk_33_method_27_code 0 = .ok (.aload_n 0, 1) := by decide +kernel
theorem d16_1 : decode jdk_33_method_27_code 1 = .ok (.getfield 205, 3) := by decide +kernel
theorem d16_4 : decode jdk_33_method_27_code 4 = .ok (.ireturn, 1) := by decide +kernel
theorem pn_16 : plainFor (⟨"java/lang/Integer", "intValue", "()I"⟩ : MethodName) = true := plainFor_of_name (by first | (simp [plainName, overriddenIn]; done) | decide +kernel)
set_option maxRecDepth 65536 in
set_option maxHeartbeats 40000000 in
theorem rm16 (l : Launch) (Z : State) (a0 : Array Value) (hw : ∀ d ∈ tables_1, d.before a0 Z = true) (ws : List Jvm.Cond) (a1 : Addr) (z : Int32) (h0 : Heap) (n0 : Nat) (Z0 : n0 ≤ h0.size) (F : Fld Z h0 a1 "java/lang/Integer" "value" "I" (.int z)) :
    MetFree l (⟨"java/lang/Integer", "intValue", "()I"⟩ : MethodName) (head1 (Jvm.Cond.code (⟨"java/lang/Integer", "intValue", "()I"⟩ : MethodName) jdk_33_method_27_code 1 (some .int) :: ws) ({ frames := 0, cells := 0, slots := 0, locals := 0 } : Room)) (fun a U => a = #[(.ref a1)] ∧ Z.Warmed39 U.vm ∧ U.heap = h0) (fun _ _ _ _ _ => True) (fun _ U o U' => ∃ v L, o = .returned v ∧ QI z h0 n0 v U'.heap L ∧ FrameEnd U o U' L ({ frames := 0, cells := 0, slots := 0, locals := 0 } : Room).cells ({ frames := 0, cells := 0, slots := 0, locals := 0 } : Room).slots) := by
  refine MetFree.of_bodySF pn_16 hisR ?_
  intro p e s m args below meth c s₁ Bd hml0 hP hK
  obtain ⟨rfl, hZ, hh⟩ := hP
  have hx := Bd.exec
  have hby := Bd.bytes
  have hml : c.maxLocals = 1 := hml0
  have hown : s.vm.findClass "java/lang/Integer" = some m.cls := findClass_of_methodNamed Bd.named
  have hnm := (name_of_methodNamed Bd.named Bd.method).1
  have hlk : meth.locks = false := BodyLoose.notSynchronized Bd
  have X0 : Stand p l e ({ frames := 0, cells := 0, slots := 0, locals := 0 } : Room) s m #[(.ref a1)] below meth c s₁ [] 0 0 := Stand.of_body Bd
  have e0 : s₁.heap = h0 := by rw [← hh, Bd.state]; rfl
  have N0 := Fr.nil n0
  show own_Fin p e below (own_P (QI z h0 n0) s ({ frames := 0, cells := 0, slots := 0, locals := 0 } : Room).cells ({ frames := 0, cells := 0, slots := 0, locals := 0 } : Room).slots) (s₁.setTop (entryFrame m #[(.ref a1)] 1))
  rw [show entryFrame m #[(.ref a1)] 1 = mkF m 0 #[.val (.ref a1)] [] from by first | (simp [entryFrame, mkF, argsToLocals, Value.category]; done) | rfl]
  refine own_go ?_ (fun tq kt => XS.aloadN X0.here hx rfl (hb hby d16_0) rfl rfl kt)
  show own_Fin _ _ _ _ (s₁.setTop (mkF m 1 #[.val (.ref a1)] [(.ref a1)]))
  obtain ⟨T182, X182, e182, st182⟩ := getF X0 hx hZ hown (host := "") (Or.inl (hw _ (List.mem_of_getElem? (i := 131) rfl))) Via.refl e0 F (g := (mkF m 1 #[.val (.ref a1)] [(.ref a1)])) rfl rfl (hb hby d16_1)
  refine own_go ?_ (fun tq kt => st182 _ kt)
  show own_Fin _ _ _ _ (T182.setTop (mkF m 4 #[.val (.ref a1)] [(.int z)]))
  refine own_retO X182 hx (t := .int) Bd.returns rfl (Or.inl ⟨rfl, Or.inl rfl, _, rfl⟩) (hb hby d16_4) hlk ?_ (by decide) (by decide)
  show QI z h0 n0 _ T182.heap _
  rw [e182]
  exact ⟨rfl, N0, rfl⟩
theorem d19_0 : decode jdk_2649_method_6_code 0 = .ok (.aload_n 0, 1) := by decide +kernel
theorem d19_1 : decode jdk_2649_method_6_code 1 = .ok (.getfield 7, 3) := by decide +kernel
theorem d19_4 : decode jdk_2649_method_6_code 4 = .ok (.ireturn, 1) := by decide +kernel
theorem pn_19 : plainFor (⟨"java/util/OptionalInt", "isPresent", "()Z"⟩ : MethodName) = true := plainFor_of_name (by first | (simp [plainName, overriddenIn]; done) | decide +kernel)
set_option maxRecDepth 65536 in
set_option maxHeartbeats 40000000 in
theorem rm19 (l : Launch) (Z : State) (a0 : Array Value) (hw : ∀ d ∈ tables_1, d.before a0 Z = true) (ws : List Jvm.Cond) (a1 : Addr) (z : Int32) (h0 : Heap) (n0 : Nat) (Z0 : n0 ≤ h0.size) (F : Fld Z h0 a1 "java/util/OptionalInt" "isPresent" "Z" (.int z)) (hz : nar .boolean z = z) :
    MetFree l (⟨"java/util/OptionalInt", "isPresent", "()Z"⟩ : MethodName) (head1 (Jvm.Cond.code (⟨"java/util/OptionalInt", "isPresent", "()Z"⟩ : MethodName) jdk_2649_method_6_code 1 (some .boolean) :: ws) ({ frames := 0, cells := 0, slots := 0, locals := 0 } : Room)) (fun a U => a = #[(.ref a1)] ∧ Z.Warmed39 U.vm ∧ U.heap = h0) (fun _ _ _ _ _ => True) (fun _ U o U' => ∃ v L, o = .returned v ∧ QI z h0 n0 v U'.heap L ∧ FrameEnd U o U' L ({ frames := 0, cells := 0, slots := 0, locals := 0 } : Room).cells ({ frames := 0, cells := 0, slots := 0, locals := 0 } : Room).slots) := by
  refine MetFree.of_bodySF pn_19 hisR ?_
  intro p e s m args below meth c s₁ Bd hml0 hP hK
  obtain ⟨rfl, hZ, hh⟩ := hP
  have hx := Bd.exec
  have hby := Bd.bytes
  have hml : c.maxLocals = 1 := hml0
  have hown : s.vm.findClass "java/util/OptionalInt" = some m.cls := findClass_of_methodNamed Bd.named
  have hnm := (name_of_methodNamed Bd.named Bd.method).1
  have hlk : meth.locks = false := BodyLoose.notSynchronized Bd
  have X0 : Stand p l e ({ frames := 0, cells := 0, slots := 0, locals := 0 } : Room) s m #[(.ref a1)] below meth c s₁ [] 0 0 := Stand.of_body Bd
  have e0 : s₁.heap = h0 := by rw [← hh, Bd.state]; rfl
  have N0 := Fr.nil n0
  show own_Fin p e below (own_P (QI z h0 n0) s ({ frames := 0, cells := 0, slots := 0, locals := 0 } : Room).cells ({ frames := 0, cells := 0, slots := 0, locals := 0 } : Room).slots) (s₁.setTop (entryFrame m #[(.ref a1)] 1))
  rw [show entryFrame m #[(.ref a1)] 1 = mkF m 0 #[.val (.ref a1)] [] from by first | (simp [entryFrame, mkF, argsToLocals, Value.category]; done) | rfl]
  refine own_go ?_ (fun tq kt => XS.aloadN X0.here hx rfl (hb hby d19_0) rfl rfl kt)
  show own_Fin _ _ _ _ (s₁.setTop (mkF m 1 #[.val (.ref a1)] [(.ref a1)]))
  obtain ⟨T184, X184, e184, st184⟩ := getF X0 hx hZ hown (host := "") (Or.inl (hw _ (List.mem_of_getElem? (i := 144) rfl))) Via.refl e0 F (g := (mkF m 1 #[.val (.ref a1)] [(.ref a1)])) rfl rfl (hb hby d19_1)
  refine own_go ?_ (fun tq kt => st184 _ kt)
  show own_Fin _ _ _ _ (T184.setTop (mkF m 4 #[.val (.ref a1)] [(.int z)]))
  refine own_retN X184 hx (t := .boolean) Bd.returns (by simp) (hb hby d19_4) hlk ?_ (by decide) (by decide)
  show QI z h0 n0 _ T184.heap _
  rw [e184]
  exact ⟨by rw [hz], N0, rfl⟩
theorem d20_0 : decode jdk_2649_method_5_code 0 = .ok (.aload_n 0, 1) := by decide +kernel
theorem d20_1 : decode jdk_2649_method_5_code 1 = .ok (.getfield 7, 3) := by decide +kernel
theorem d20_4 : decode jdk_2649_method_5_code 4 = .ok (.ifCond .ne 13, 3) := by decide +kernel
theorem d20_7 : decode jdk_2649_method_5_code 7 = .ok (.new 24, 3) := by decide +kernel
theorem d20_10 : decode jdk_2649_method_5_code 10 = .ok (.dup, 1) := by decide +kernel
theorem d20_11 : decode jdk_2649_method_5_code 11 = .ok (.ldc 26, 2) := by decide +kernel
theorem d20_13 : decode jdk_2649_method_5_code 13 = .ok (.invokespecial 28, 3) := by decide +kernel
theorem d20_16 : decode jdk_2649_method_5_code 16 = .ok (.athrow, 1) := by decide +kernel
theorem d20_17 : decode jdk_2649_method_5_code 17 = .ok (.aload_n 0, 1) := by decide +kernel
theorem d20_18 : decode jdk_2649_method_5_code 18 = .ok (.getfield 13, 3) := by decide +kernel
theorem d20_21 : decode jdk_2649_method_5_code 21 = .ok (.ireturn, 1) := by decide +kernel
theorem pn_20 : plainFor (⟨"java/util/OptionalInt", "getAsInt", "()I"⟩ : MethodName) = true := plainFor_of_name (by first | (simp [plainName, overriddenIn]; done) | decide +kernel)
set_option maxRecDepth 65536 in
set_option maxHeartbeats 40000000 in
theorem rm20 (l : Launch) (Z : State) (a0 : Array Value) (hw : ∀ d ∈ tables_1, d.before a0 Z = true) (ws : List Jvm.Cond) (a1 : Addr) (z q : Int32) (h0 : Heap) (n0 : Nat) (Z0 : n0 ≤ h0.size) (F : Fld Z h0 a1 "java/util/OptionalInt" "isPresent" "Z" (.int z)) (G : Fld Z h0 a1 "java/util/OptionalInt" "value" "I" (.int q)) (hz : ¬ z = 0) :
    MetFree l (⟨"java/util/OptionalInt", "getAsInt", "()I"⟩ : MethodName) (head1 (Jvm.Cond.code (⟨"java/util/OptionalInt", "getAsInt", "()I"⟩ : MethodName) jdk_2649_method_5_code 1 (some .int) :: ws) ({ frames := 0, cells := 0, slots := 0, locals := 0 } : Room)) (fun a U => a = #[(.ref a1)] ∧ Z.Warmed39 U.vm ∧ U.heap = h0) (fun _ _ _ _ _ => True) (fun _ U o U' => ∃ v L, o = .returned v ∧ QI q h0 n0 v U'.heap L ∧ FrameEnd U o U' L ({ frames := 0, cells := 0, slots := 0, locals := 0 } : Room).cells ({ frames := 0, cells := 0, slots := 0, locals := 0 } : Room).slots) := by
  refine MetFree.of_bodySF pn_20 hisR ?_
  intro p e s m args below meth c s₁ Bd hml0 hP hK
  obtain ⟨rfl, hZ, hh⟩ := hP
  have hx := Bd.exec
  have hby := Bd.bytes
  have hml : c.maxLocals = 1 := hml0
  have hown : s.vm.findClass "java/util/OptionalInt" = some m.cls := findClass_of_methodNamed Bd.named
  have hnm := (name_of_methodNamed Bd.named Bd.method).1
  have hlk : meth.locks = false := BodyLoose.notSynchronized Bd
  have X0 : Stand p l e ({ frames := 0, cells := 0, slots := 0, locals := 0 } : Room) s m #[(.ref a1)] below meth c s₁ [] 0 0 := Stand.of_body Bd
  have e0 : s₁.heap = h0 := by rw [← hh, Bd.state]; rfl
  have N0 := Fr.nil n0
  show own_Fin p e below (own_P (QI q h0 n0) s ({ frames := 0, cells := 0, slots := 0, locals := 0 } : Room).cells ({ frames := 0, cells := 0, slots := 0, locals := 0 } : Room).slots) (s₁.setTop (entryFrame m #[(.ref a1)] 1))
  rw [show entryFrame m #[(.ref a1)] 1 = mkF m 0 #[.val (.ref a1)] [] from by first | (simp [entryFrame, mkF, argsToLocals, Value.category]; done) | rfl]
  refine own_go ?_ (fun tq kt => XS.aloadN X0.here hx rfl (hb hby d20_0) rfl rfl kt)
  show own_Fin _ _ _ _ (s₁.setTop (mkF m 1 #[.val (.ref a1)] [(.ref a1)]))
  obtain ⟨T187, X187, e187, st187⟩ := getF X0 hx hZ hown (host := "") (Or.inl (hw _ (List.mem_of_getElem? (i := 144) rfl))) Via.refl e0 F (g := (mkF m 1 #[.val (.ref a1)] [(.ref a1)])) rfl rfl (hb hby d20_1)
  refine own_go ?_ (fun tq kt => st187 _ kt)
  show own_Fin _ _ _ _ (T187.setTop (mkF m 4 #[.val (.ref a1)] [(.int z)]))
  refine own_go ?_ (fun tq kt => XS.ifYes X187.here hx rfl (pc0 := 4) (pc' := 17) rfl (hb hby d20_4) rfl ((if0 _ _).trans (feq (hz : ¬ (z = (0 : Int32)))).2) (by decide) (by decide) kt)
  show own_Fin _ _ _ _ (T187.setTop (mkF m 17 #[.val (.ref a1)] []))
  refine own_go ?_ (fun tq kt => XS.aloadN X187.here hx rfl (hb hby d20_17) rfl rfl kt)
  show own_Fin _ _ _ _ (T187.setTop (mkF m 18 #[.val (.ref a1)] [(.ref a1)]))
  obtain ⟨T188, X188, e188, st188⟩ := getF X187 hx hZ hown (host := "") (Or.inl (hw _ (List.mem_of_getElem? (i := 146) rfl))) Via.refl e187 G (g := (mkF m 18 #[.val (.ref a1)] [(.ref a1)])) rfl rfl (hb hby d20_18)
  refine own_go ?_ (fun tq kt => st188 _ kt)
  show own_Fin _ _ _ _ (T188.setTop (mkF m 21 #[.val (.ref a1)] [(.int q)]))
  refine own_retO X188 hx (t := .int) Bd.returns rfl (Or.inl ⟨rfl, Or.inl rfl, _, rfl⟩) (hb hby d20_21) hlk ?_ (by decide) (by decide)
  show QI q h0 n0 _ T188.heap _
  rw [e188]
  exact ⟨rfl, N0, rfl⟩
theorem d15_0 : decode prog_55_method_2_code 0 = .ok (.aload_n 0, 1) := by decide +kernel
theorem d15_1 : decode prog_55_method_2_code 1 = .ok (.getfield 7, 3) := by decide +kernel
theorem d15_4 : decode prog_55_method_2_code 4 = .ok (.ifnonnull 9, 3) := by decide +kernel
theorem d15_7 : decode prog_55_method_2_code 7 = .ok (.invokestatic 41, 3) := by decide +kernel
theorem d15_10 : decode prog_55_method_2_code 10 = .ok (.goto 13, 3) := by decide +kernel
theorem d15_13 : decode prog_55_method_2_code 13 = .ok (.aload_n 0, 1) := by decide +kernel
theorem d15_14 : decode prog_55_method_2_code 14 = .ok (.getfield 7, 3) := by decide +kernel
theorem d15_17 : decode prog_55_method_2_code 17 = .ok (.invokevirtual 47, 3) := by decide +kernel
theorem d15_20 : decode prog_55_method_2_code 20 = .ok (.invokestatic 53, 3) := by decide +kernel
theorem d15_23 : decode prog_55_method_2_code 23 = .ok (.areturn, 1) := by decide +kernel
theorem pn_15 : plainFor (⟨"com/example/conformance_check/conformancecheck/document/RationaleRow", "number", "()Ljava/util/OptionalInt;"⟩ : MethodName) = true := plainFor_of_name (by first | (simp [plainName, overriddenIn]; done) | decide +kernel)
set_option maxRecDepth 65536 in
set_option maxHeartbeats 40000000 in
theorem rm15n (l : Launch) (Z : State) (a0 : Array Value) (hw : ∀ d ∈ tables_1, d.before a0 Z = true) (ws : List Jvm.Cond) (a1 : Addr) (oe : Addr) (h0 : Heap) (n0 : Nat) (Z0 : n0 ≤ h0.size) (O0 : Old Z n0 h0) (SEM : Sta Z Z.heap "java/util/OptionalInt" "EMPTY" "Ljava/util/OptionalInt;" (.ref oe)) (F : Fld Z h0 a1 "com/example/conformance_check/conformancecheck/document/RationaleRow" "number" "Ljava/lang/Integer;" .null) :
    MetFree l (⟨"com/example/conformance_check/conformancecheck/document/RationaleRow", "number", "()Ljava/util/OptionalInt;"⟩ : MethodName) (head1 (Jvm.Cond.code (⟨"com/example/conformance_check/conformancecheck/document/RationaleRow", "number", "()Ljava/util/OptionalInt;"⟩ : MethodName) prog_55_method_2_code 1 (some (.object "java/util/OptionalInt")) :: ws) ({ frames := 1, cells := 0, slots := 0, locals := 11 } : Room)) (fun a U => a = #[(.ref a1)] ∧ Z.Warmed39 U.vm ∧ U.heap = h0) (fun _ _ _ _ _ => True) (fun _ U o U' => ∃ v L, o = .returned v ∧ QR (.ref oe) h0 n0 v U'.heap L ∧ FrameEnd U o U' L ({ frames := 1, cells := 0, slots := 0, locals := 11 } : Room).cells ({ frames := 1, cells := 0, slots := 0, locals := 11 } : Room).slots) := by
  refine MetFree.of_bodySF pn_15 hisR ?_
  intro p e s m args below meth c s₁ Bd hml0 hP hK
  obtain ⟨rfl, hZ, hh⟩ := hP
  have hx := Bd.exec
  have hby := Bd.bytes
  have hml : c.maxLocals = 1 := hml0
  have hown : s.vm.findClass "com/example/conformance_check/conformancecheck/document/RationaleRow" = some m.cls := findClass_of_methodNamed Bd.named
  have hnm := (name_of_methodNamed Bd.named Bd.method).1
  have hlk : meth.locks = false := BodyLoose.notSynchronized Bd
  have X0 : Stand p l e ({ frames := 1, cells := 0, slots := 0, locals := 11 } : Room) s m #[(.ref a1)] below meth c s₁ [] 0 0 := Stand.of_body Bd
  have e0 : s₁.heap = h0 := by rw [← hh, Bd.state]; rfl
  have N0 := Fr.nil n0
  show own_Fin p e below (own_P (QR (.ref oe) h0 n0) s ({ frames := 1, cells := 0, slots := 0, locals := 11 } : Room).cells ({ frames := 1, cells := 0, slots := 0, locals := 11 } : Room).slots) (s₁.setTop (entryFrame m #[(.ref a1)] 1))
  rw [show entryFrame m #[(.ref a1)] 1 = mkF m 0 #[.val (.ref a1)] [] from by first | (simp [entryFrame, mkF, argsToLocals, Value.category]; done) | rfl]
  refine own_go ?_ (fun tq kt => XS.aloadN X0.here hx rfl (hb hby d15_0) rfl rfl kt)
  show own_Fin _ _ _ _ (s₁.setTop (mkF m 1 #[.val (.ref a1)] [(.ref a1)]))
  obtain ⟨T191, X191, e191, st191⟩ := getF X0 hx hZ hown (host := "") (Or.inl (hw _ (List.mem_of_getElem? (i := 64) rfl))) Via.refl e0 F (g := (mkF m 1 #[.val (.ref a1)] [(.ref a1)])) rfl rfl (hb hby d15_1)
  refine own_go ?_ (fun tq kt => st191 _ kt)
  show own_Fin _ _ _ _ (T191.setTop (mkF m 4 #[.val (.ref a1)] [.null]))
  refine own_go ?_ (fun tq kt => XS.ifnonnullNo X191.here hx rfl (hb hby d15_4) rfl kt)
  show own_Fin _ _ _ _ (T191.setTop (mkF m 7 #[.val (.ref a1)] []))
  obtain ⟨_, _, ⟨T192, L192, k192, n192⟩, -, X192, ⟨Lc192, hQ192, l192, y192, z192⟩, st192⟩ := Jvm.LawKit.callS X191 hx (y := (⟨"java/util/OptionalInt", "empty", "()Ljava/util/OptionalInt;"⟩ : MethodName)) hown (mvT hZ (hw _ (List.mem_of_getElem? (i := 158) rfl))) (mvT hZ (hw _ (List.mem_of_getElem? (i := 159) rfl))) (mvT hZ (hw _ (List.mem_of_getElem? (i := 135) rfl))) (mvT hZ (hw _ (List.mem_of_getElem? (i := 160) rfl))) (by decide) (backOf (W := 0) (rm21 l Z a0 hw [] oe h0 n0 Z0 O0 SEM) hZ (hw _ (List.mem_of_getElem? (i := 160) rfl)) (hw _ (List.mem_of_getElem? (i := 135) rfl)) (by decide) (by decide)) (g := (mkF m 7 #[.val (.ref a1)] [])) rfl (by rw [hml]; rfl) (argsL := []) (rest := []) (lenOf own_pd8 rfl) rfl (by show 2 * 0 + _ ≤ _; exact Nat.le_of_eq rfl) (hb hby d15_7) (fun _ _ => ⟨rfl, e191, (by decide : 0 + 0 ≤ _), (by decide : 0 + 0 ≤ _)⟩)
  dsimp only [Pt.U, Pt.locs, Pt.cells, Pt.slots] at X192 l192 y192 z192 st192 hQ192
  subst l192 y192 z192
  obtain ⟨rfl, N192q, e192⟩ := hQ192
  have N192 := Fr.app N0 N192q
  refine own_go ?_ (fun tq kt => st192 _ kt)
  show own_Fin _ _ _ _ (T192.setTop (mkF m 10 #[.val (.ref a1)] [(.ref oe)]))
  refine own_go ?_ (fun tq kt => XS.goto X192.here hx rfl (pc0 := 10) (pc' := 23) rfl (hb hby d15_10) (by decide) (by decide) kt)
  show own_Fin _ _ _ _ (T192.setTop (mkF m 23 #[.val (.ref a1)] [(.ref oe)]))
  refine own_retO X192 hx (t := (.object "java/util/OptionalInt")) Bd.returns rfl (Or.inr (Or.inr (Or.inr (Or.inr ⟨rfl, rfl, rfl⟩)))) (hb hby d15_23) hlk ?_ (by decide) (by decide)
  show QR (.ref oe) h0 n0 _ T192.heap _
  rw [e192]
  exact ⟨rfl, N192, rfl⟩
set_option maxRecDepth 65536 in
set_option maxHeartbeats 40000000 in
theorem rm15s (l : Launch) (Z : State) (a0 : Array Value) (hw : ∀ d ∈ tables_1, d.before a0 Z = true) (ws : List Jvm.Cond) (a1 : Addr) (i : Addr) (q : Int32) (h0 : Heap) (n0 : Nat) (Z0 : n0 ≤ h0.size) (F : Fld Z h0 a1 "com/example/conformance_check/conformancecheck/document/RationaleRow" "number" "Ljava/lang/Integer;" (.ref i)) (EI : Exa Z h0 i "java/lang/Integer") (FI : Fld Z h0 i "java/lang/Integer" "value" "I" (.int q)) :
    MetFree l (⟨"com/example/conformance_check/conformancecheck/document/RationaleRow", "number", "()Ljava/util/OptionalInt;"⟩ : MethodName) (head1 (Jvm.Cond.code (⟨"com/example/conformance_check/conformancecheck/document/RationaleRow", "number", "()Ljava/util/OptionalInt;"⟩ : MethodName) prog_55_method_2_code 1 (some (.object "java/util/OptionalInt")) :: ws) ({ frames := 3, cells := 1, slots := 2, locals := 38 } : Room)) (fun a U => a = #[(.ref a1)] ∧ Z.Warmed39 U.vm ∧ U.heap = h0) (fun _ _ _ _ _ => True) (fun _ U o U' => ∃ v L, o = .returned v ∧ QOI Z 1 q h0 n0 v U'.heap L ∧ FrameEnd U o U' L ({ frames := 3, cells := 1, slots := 2, locals := 38 } : Room).cells ({ frames := 3, cells := 1, slots := 2, locals := 38 } : Room).slots) := by
  refine MetFree.of_bodySF pn_15 hisR ?_
  intro p e s m args below meth c s₁ Bd hml0 hP hK
  obtain ⟨rfl, hZ, hh⟩ := hP
  have hx := Bd.exec
  have hby := Bd.bytes
  have hml : c.maxLocals = 1 := hml0
  have hown : s.vm.findClass "com/example/conformance_check/conformancecheck/document/RationaleRow" = some m.cls := findClass_of_methodNamed Bd.named
  have hnm := (name_of_methodNamed Bd.named Bd.method).1
  have hlk : meth.locks = false := BodyLoose.notSynchronized Bd
  have X0 : Stand p l e ({ frames := 3, cells := 1, slots := 2, locals := 38 } : Room) s m #[(.ref a1)] below meth c s₁ [] 0 0 := Stand.of_body Bd
  have e0 : s₁.heap = h0 := by rw [← hh, Bd.state]; rfl
  have N0 := Fr.nil n0
  show own_Fin p e below (own_P (QOI Z 1 q h0 n0) s ({ frames := 3, cells := 1, slots := 2, locals := 38 } : Room).cells ({ frames := 3, cells := 1, slots := 2, locals := 38 } : Room).slots) (s₁.setTop (entryFrame m #[(.ref a1)] 1))
  rw [show entryFrame m #[(.ref a1)] 1 = mkF m 0 #[.val (.ref a1)] [] from by first | (simp [entryFrame, mkF, argsToLocals, Value.category]; done) | rfl]
  have kp0 := Keep.refl h0 []
  refine own_go ?_ (fun tq kt => XS.aloadN X0.here hx rfl (hb hby d15_0) rfl rfl kt)
  show own_Fin _ _ _ _ (s₁.setTop (mkF m 1 #[.val (.ref a1)] [(.ref a1)]))
  obtain ⟨T198, X198, e198, st198⟩ := getF X0 hx hZ hown (host := "") (Or.inl (hw _ (List.mem_of_getElem? (i := 64) rfl))) Via.refl e0 F (g := (mkF m 1 #[.val (.ref a1)] [(.ref a1)])) rfl rfl (hb hby d15_1)
  refine own_go ?_ (fun tq kt => st198 _ kt)
  show own_Fin _ _ _ _ (T198.setTop (mkF m 4 #[.val (.ref a1)] [(.ref i)]))
  refine own_go ?_ (fun tq kt => XS.ifnonnullYes X198.here hx rfl (pc0 := 4) (pc' := 13) rfl (hb hby d15_4) rfl (by decide) (by decide) kt)
  show own_Fin _ _ _ _ (T198.setTop (mkF m 13 #[.val (.ref a1)] []))
  refine own_go ?_ (fun tq kt => XS.aloadN X198.here hx rfl (hb hby d15_13) rfl rfl kt)
  show own_Fin _ _ _ _ (T198.setTop (mkF m 14 #[.val (.ref a1)] [(.ref a1)]))
  obtain ⟨T199, X199, e199, st199⟩ := getF X198 hx hZ hown (host := "") (Or.inl (hw _ (List.mem_of_getElem? (i := 64) rfl))) Via.refl e198 F (g := (mkF m 14 #[.val (.ref a1)] [(.ref a1)])) rfl rfl (hb hby d15_14)
  refine own_go ?_ (fun tq kt => st199 _ kt)
  show own_Fin _ _ _ _ (T199.setTop (mkF m 17 #[.val (.ref a1)] [(.ref i)]))
  obtain ⟨cq200, kq200, q200a, q200b, q200c⟩ := isOf hZ e199 EI
  obtain ⟨_, _, ⟨T200, L200, k200, n200⟩, -, X200, ⟨Lc200, hQ200, l200, y200, z200⟩, st200⟩ := X199.virtualBack hx (y := (⟨"java/lang/Integer", "intValue", "()I"⟩ : MethodName)) (z := (⟨"java/lang/Integer", "intValue", "()I"⟩ : MethodName)) hown (mvT hZ (hw _ (List.mem_of_getElem? (i := 126) rfl))) (mvT hZ (hw _ (List.mem_of_getElem? (i := 127) rfl))) (notFace_of_selects (args := #[]) (mvT hZ (hw _ (List.mem_of_getElem? (i := 129) rfl)))) (mvT hZ (hw _ (List.mem_of_getElem? (i := 129) rfl))) (mvT hZ (hw _ (List.mem_of_getElem? (i := 128) rfl))) (by decide) (backOf (W := 0) (rm16 l Z a0 hw [] i q h0 n0 Z0 FI) hZ (hw _ (List.mem_of_getElem? (i := 130) rfl)) (hw _ (List.mem_of_getElem? (i := 2) rfl)) (by decide) (by decide)) q200a q200c (g := (mkF m 17 #[.val (.ref a1)] [(.ref i)])) rfl (by rw [hml]; rfl) (Steps.refl _) (argsL := []) (rest := []) (lenOf own_pd9 rfl) rfl (by show 2 * 0 + _ ≤ _; exact Nat.le_of_eq rfl) (hb hby d15_17) (fun _ _ => ⟨rfl, e199, (by decide : 0 + 0 ≤ _), (by decide : 0 + 0 ≤ _)⟩)
  dsimp only [Pt.U, Pt.locs, Pt.cells, Pt.slots] at X200 l200 y200 z200 st200 hQ200
  subst l200 y200 z200
  obtain ⟨rfl, N200q, e200⟩ := hQ200
  have N200 := Fr.app N0 N200q
  refine own_go ?_ (fun tq kt => st200.trans kt)
  show own_Fin _ _ _ _ (T200.setTop (mkF m 20 #[.val (.ref a1)] [(.int q)]))
  obtain ⟨_, _, ⟨T201, L201, k201, n201⟩, -, X201, ⟨Lc201, hQ201, l201, y201, z201⟩, st201⟩ := Jvm.LawKit.callS X200 hx (y := (⟨"java/util/OptionalInt", "of", "(I)Ljava/util/OptionalInt;"⟩ : MethodName)) hown (mvT hZ (hw _ (List.mem_of_getElem? (i := 133) rfl))) (mvT hZ (hw _ (List.mem_of_getElem? (i := 134) rfl))) (mvT hZ (hw _ (List.mem_of_getElem? (i := 135) rfl))) (mvT hZ (hw _ (List.mem_of_getElem? (i := 136) rfl))) (by decide) (backOf (W := 0) (rm17 l Z a0 hw [] q h0 n0 Z0) hZ (hw _ (List.mem_of_getElem? (i := 136) rfl)) (hw _ (List.mem_of_getElem? (i := 135) rfl)) (by decide) (by decide)) (g := (mkF m 20 #[.val (.ref a1)] [(.int q)])) rfl (by rw [hml]; rfl) (argsL := [(.int q)]) (rest := []) (lenOf own_pd10 rfl) rfl (by show 2 * 0 + _ ≤ _; exact Nat.le_of_eq rfl) (hb hby d15_20) (fun _ _ => ⟨rfl, e200, (by decide : 0 + 1 ≤ _), (by decide : 0 + 2 ≤ _)⟩)
  dsimp only [Pt.U, Pt.locs, Pt.cells, Pt.slots] at X201 l201 y201 z201 st201 hQ201
  subst l201 y201 z201
  obtain ⟨x201, rfl, N201q, E201, Ex201, Fp201, Fv201⟩ := hQ201
  have N201 := Fr.app N200 N201q
  obtain ⟨h201, e201⟩ : ∃ z, z = T201.heap := ⟨_, rfl⟩
  have e201' := e201.symm
  rw [← e201] at E201 Ex201 Fp201 Fv201
  have zs202 := Nat.le_trans Z0 E201.1
  have kp202 : Keep h0 h201 [] := kp0.ext E201
  refine own_go ?_ (fun tq kt => st201 _ kt)
  show own_Fin _ _ _ _ (T201.setTop (mkF m 23 #[.val (.ref a1)] [(.ref x201)]))
  refine own_retO X201 hx (t := (.object "java/util/OptionalInt")) Bd.returns rfl (Or.inr (Or.inr (Or.inr (Or.inr ⟨rfl, rfl, rfl⟩)))) (hb hby d15_23) hlk ?_ (by decide) (by decide)
  show QOI Z 1 q h0 n0 _ T201.heap _
  rw [e201']
  exact ⟨_, rfl, N201, own_extK kp202, Ex201, Fp201, Fv201⟩
theorem pn_0 : plainFor (⟨"com/example/conformance_check/conformancecheck/document/RationaleRowNumberPinLaw", "law", "(IIII)Z"⟩ : MethodName) = true := plainFor_of_name (by first | (simp [plainName, overriddenIn]; done) | decide +kernel)
set_option maxRecDepth 65536 in
set_option maxHeartbeats 40000000 in
theorem rm0 (l : Launch) (Z : State) (a0 : Array Value) (hw : ∀ d ∈ tables_1, d.before a0 Z = true) (ws : List Jvm.Cond) (p1 : Int32) (p2 : Int32) (p3 : Int32) (p4 : Int32) (ca : Addr) (cl : Cell) (de : Addr) (cs0 : Int32) (mA mL mR : Addr) (oe : Addr) (h0 : Heap) (n0 : Nat) (Z0 : n0 ≤ h0.size) (O0 : Old Z n0 h0) (SHI : Sta Z Z.heap "java/lang/Integer$IntegerCache" "high" "I" (.int (127 : Int32))) (SCA : Sta Z Z.heap "java/lang/Integer$IntegerCache" "cache" "[Ljava/lang/Integer;" (.ref ca)) (ACA : Arr Z Z.heap ca cl (.object "java/lang/Integer")) (ZCA : cl.slots.size = (256 : Int32).toNatClampNeg) (BCA : own_Box Z cl) (SDE : Sta Z Z.heap "java/util/ArrayList" "DEFAULTCAPACITY_EMPTY_ELEMENTDATA" "[Ljava/lang/Object;" (.ref de)) (SCS : Sta Z Z.heap "java/lang/String" "COMPACT_STRINGS" "Z" (.int cs0)) (hcs : ¬ cs0 = 0) (MA : own_Mir Z "java/util/ArrayList" mA) (ML : own_Mir Z "java/util/Collections$UnmodifiableList" mL) (MR : own_Mir Z "java/util/Collections$UnmodifiableRandomAccessList" mR) (SEM : Sta Z Z.heap "java/util/OptionalInt" "EMPTY" "Ljava/util/OptionalInt;" (.ref oe)) (EEM : Exa Z Z.heap oe "java/util/OptionalInt") (FEM : Fld Z Z.heap oe "java/util/OptionalInt" "isPresent" "Z" (.int (0 : Int32))) :
    MetFree l x (head1 (Jvm.Cond.code x code maxLocals ret :: ws) room_1) (fun a U => a = #[(.int p1), (.int p2), (.int p3), (.int p4)] ∧ Z.Warmed39 U.vm ∧ U.heap = h0) (fun _ _ _ _ _ => True) (fun _ U o U' => ∃ v L, o = .returned v ∧ Q0 n0 v U'.heap L ∧ FrameEnd U o U' L room_1.cells room_1.slots) := by
  refine MetFree.of_bodySF pn_0 hisR ?_
  intro p e s m args below meth c s₁ Bd hml0 hP hK
  obtain ⟨rfl, hZ, hh⟩ := hP
  have hx := Bd.exec
  have hby := Bd.bytes
  have hml : c.maxLocals = 12 := hml0
  have hown : s.vm.findClass "com/example/conformance_check/conformancecheck/document/RationaleRowNumberPinLaw" = some m.cls := findClass_of_methodNamed Bd.named
  have hnm := (name_of_methodNamed Bd.named Bd.method).1
  have hlk : meth.locks = false := BodyLoose.notSynchronized Bd
  have X0 : Stand p l e room_1 s m #[(.int p1), (.int p2), (.int p3), (.int p4)] below meth c s₁ [] 0 0 := Stand.of_body Bd
  have e0 : s₁.heap = h0 := by rw [← hh, Bd.state]; rfl
  have N0 := Fr.nil n0
  show own_Fin p e below (own_P (Q0 n0) s room_1.cells room_1.slots) (s₁.setTop (entryFrame m #[(.int p1), (.int p2), (.int p3), (.int p4)] maxLocals))
  rw [show entryFrame m #[(.int p1), (.int p2), (.int p3), (.int p4)] maxLocals = mkF m 0 #[.val (.int p1), .val (.int p2), .val (.int p3), .val (.int p4), .unset, .unset, .unset, .unset, .unset, .unset, .unset, .unset] [] from by first | (simp [entryFrame, mkF, argsToLocals, Value.category, maxLocals]; done) | rfl]
  refine own_go ?_ (fun tq kt => XS.iloadN X0.here hx rfl (hb hby at_0) rfl kt)
  show own_Fin _ _ _ _ (s₁.setTop (mkF m 1 #[.val (.int p1), .val (.int p2), .val (.int p3), .val (.int p4), .unset, .unset, .unset, .unset, .unset, .unset, .unset, .unset] [(.int p2)]))
  refine own_go ?_ (fun tq kt => XS.iconst X0.here hx rfl (hb hby at_1) kt)
  show own_Fin _ _ _ _ (s₁.setTop (mkF m 2 #[.val (.int p1), .val (.int p2), .val (.int p3), .val (.int p4), .unset, .unset, .unset, .unset, .unset, .unset, .unset, .unset] [(.int (1 : Int32)), (.int p2)]))
  refine own_go ?_ (fun tq kt => XS.iand X0.here hx rfl (hb hby at_2) rfl kt)
  show own_Fin _ _ _ _ (s₁.setTop (mkF m 3 #[.val (.int p1), .val (.int p2), .val (.int p3), .val (.int p4), .unset, .unset, .unset, .unset, .unset, .unset, .unset, .unset] [(.int (p2 &&& (1 : Int32)))]))
  by_cases hc3_256 : (p2 &&& (1 : Int32)) = (0 : Int32)
  · refine own_go ?_ (fun tq kt => XS.ifYes X0.here hx rfl (pc0 := 3) (pc' := 10) rfl (hb hby at_3) rfl ((if0 _ _).trans (teq (hc3_256 : (p2 &&& (1 : Int32)) = (0 : Int32))).1) (by decide) (by decide) kt)
    show own_Fin _ _ _ _ (s₁.setTop (mkF m 10 #[.val (.int p1), .val (.int p2), .val (.int p3), .val (.int p4), .unset, .unset, .unset, .unset, .unset, .unset, .unset, .unset] []))
    refine own_go ?_ (fun tq kt => XS.iconst X0.here hx rfl (hb hby at_10) kt)
    show own_Fin _ _ _ _ (s₁.setTop (mkF m 11 #[.val (.int p1), .val (.int p2), .val (.int p3), .val (.int p4), .unset, .unset, .unset, .unset, .unset, .unset, .unset, .unset] [(.int (0 : Int32))]))
    refine own_go ?_ (fun tq kt => XS.istore X0.here hx rfl (hb hby at_11) rfl (l' := #[.val (.int p1), .val (.int p2), .val (.int p3), .val (.int p4), .val (.int (0 : Int32)), .unset, .unset, .unset, .unset, .unset, .unset, .unset]) rfl kt)
    show own_Fin _ _ _ _ (s₁.setTop (mkF m 13 #[.val (.int p1), .val (.int p2), .val (.int p3), .val (.int p4), .val (.int (0 : Int32)), .unset, .unset, .unset, .unset, .unset, .unset, .unset] []))
    refine own_go ?_ (fun tq kt => XS.iload X0.here hx rfl (hb hby at_13) rfl kt)
    show own_Fin _ _ _ _ (s₁.setTop (mkF m 15 #[.val (.int p1), .val (.int p2), .val (.int p3), .val (.int p4), .val (.int (0 : Int32)), .unset, .unset, .unset, .unset, .unset, .unset, .unset] [(.int (0 : Int32))]))
    refine own_go ?_ (fun tq kt => XS.ifYes X0.here hx rfl (pc0 := 15) (pc' := 25) rfl (hb hby at_15) rfl ((if0 _ _).trans (teq (rfl : (0 : Int32) = (0 : Int32))).1) (by decide) (by decide) kt)
    show own_Fin _ _ _ _ (s₁.setTop (mkF m 25 #[.val (.int p1), .val (.int p2), .val (.int p3), .val (.int p4), .val (.int (0 : Int32)), .unset, .unset, .unset, .unset, .unset, .unset, .unset] []))
    refine own_go ?_ (fun tq kt => XS.aconstNull X0.here hx rfl (hb hby at_25) kt)
    show own_Fin _ _ _ _ (s₁.setTop (mkF m 26 #[.val (.int p1), .val (.int p2), .val (.int p3), .val (.int p4), .val (.int (0 : Int32)), .unset, .unset, .unset, .unset, .unset, .unset, .unset] [.null]))
    refine own_go ?_ (fun tq kt => XS.astore X0.here hx rfl (hb hby at_26) rfl rfl (l' := #[.val (.int p1), .val (.int p2), .val (.int p3), .val (.int p4), .val (.int (0 : Int32)), .val .null, .unset, .unset, .unset, .unset, .unset, .unset]) rfl kt)
    show own_Fin _ _ _ _ (s₁.setTop (mkF m 28 #[.val (.int p1), .val (.int p2), .val (.int p3), .val (.int p4), .val (.int (0 : Int32)), .val .null, .unset, .unset, .unset, .unset, .unset, .unset] []))
    obtain ⟨T257, h257, X257, e257, E257, A257, D257, -, st257⟩ := newO X0 hx hZ hown (hw _ (List.mem_of_getElem? (i := 7) rfl)) (hw _ (List.mem_of_getElem? (i := 8) rfl)) (hw _ (List.mem_of_getElem? (i := 9) rfl)) e0 (g := (mkF m 28 #[.val (.int p1), .val (.int p2), .val (.int p3), .val (.int p4), .val (.int (0 : Int32)), .val .null, .unset, .unset, .unset, .unset, .unset, .unset] [])) rfl (hb hby at_28) (by decide) (by decide)
    obtain ⟨b257, g257⟩ : ∃ z, z = h0.size := ⟨_, rfl⟩
    rw [← g257] at A257 D257 st257
    have zs258 := Nat.le_trans Z0 E257.1
    have od258 := O0.ext E257
    have g_b257 : n0 ≤ b257 := Nat.le_trans Z0 (Nat.le_of_eq g257.symm)
    have ne_oe_b257 : oe ≠ b257 := od258.ne (EEM).lt g_b257
    have F257_modCount : Fld Z h257 b257 "java/util/AbstractList" "modCount" "I" (.int (0 : Int32)) := D257 (Or.inl (hw _ (List.mem_of_getElem? (i := 29) rfl))) (ty := .int) (by decide)
    have F257_elementData : Fld Z h257 b257 "java/util/ArrayList" "elementData" "[Ljava/lang/Object;" .null := D257 (Or.inl (hw _ (List.mem_of_getElem? (i := 32) rfl))) (ty := (.array (.object "java/lang/Object"))) (by decide)
    refine own_go ?_ (fun tq kt => st257 _ kt)
    show own_Fin _ _ _ _ (T257.setTop (mkF m 31 #[.val (.int p1), .val (.int p2), .val (.int p3), .val (.int p4), .val (.int (0 : Int32)), .val .null, .unset, .unset, .unset, .unset, .unset, .unset] [(.ref b257)]))
    refine own_go ?_ (fun tq kt => XS.dup X257.here hx rfl (hb hby at_31) rfl rfl kt)
    show own_Fin _ _ _ _ (T257.setTop (mkF m 32 #[.val (.int p1), .val (.int p2), .val (.int p3), .val (.int p4), .val (.int (0 : Int32)), .val .null, .unset, .unset, .unset, .unset, .unset, .unset] [(.ref b257), (.ref b257)]))
    obtain ⟨_, _, ⟨T259, L259, k259, n259⟩, -, X259, ⟨Lc259, hQ259, l259, y259, z259⟩, st259⟩ := X257.specialBack hx (y := (⟨"java/util/ArrayList", "<init>", "()V"⟩ : MethodName)) rfl hown (mvT hZ (hw _ (List.mem_of_getElem? (i := 10) rfl))) (mvT hZ (hw _ (List.mem_of_getElem? (i := 11) rfl))) (mvT hZ (hw _ (List.mem_of_getElem? (i := 12) rfl))) (by decide) (backOf (W := 1) (rm2 l Z a0 hw [] b257 de h257 n0 zs258 od258 A257 F257_modCount F257_elementData g_b257  SDE) hZ (hw _ (List.mem_of_getElem? (i := 12) rfl)) (hw _ (List.mem_of_getElem? (i := 9) rfl)) (by decide) (by decide)) (g := (mkF m 32 #[.val (.int p1), .val (.int p2), .val (.int p3), .val (.int p4), .val (.int (0 : Int32)), .val .null, .unset, .unset, .unset, .unset, .unset, .unset] [(.ref b257), (.ref b257)])) rfl (by rw [hml]; rfl) (Steps.refl _) (a := b257) (argsL := []) (rest := [(.ref b257)]) (lenOf own_pd0 rfl) rfl (by show 2 * 0 + _ ≤ _; exact Nat.le_of_eq rfl) (hb hby at_32) (fun _ _ => ⟨rfl, e257, (by decide : 1 + 0 ≤ _), (by decide : 3 + 0 ≤ _)⟩)
    dsimp only [Pt.U, Pt.locs, Pt.cells, Pt.slots] at X259 l259 y259 z259 st259 hQ259
    subst l259 y259 z259
    obtain ⟨rfl, N259q, K259, F259_0, F259_1⟩ := hQ259
    have N259 := Fr.app N0 N259q
    obtain ⟨h259, e259⟩ : ∃ z, z = T259.heap := ⟨_, rfl⟩
    have e259' := e259.symm
    rw [← e259] at K259 F259_0 F259_1
    have zs260 := Nat.le_trans zs258 K259.1
    have od260 := od258.keep K259 (allS g_b257 all0)
    refine own_go ?_ (fun tq kt => st259.trans kt)
    show own_Fin _ _ _ _ (T259.setTop (mkF m 35 #[.val (.int p1), .val (.int p2), .val (.int p3), .val (.int p4), .val (.int (0 : Int32)), .val .null, .unset, .unset, .unset, .unset, .unset, .unset] [(.ref b257)]))
    refine own_go ?_ (fun tq kt => XS.astore X259.here hx rfl (hb hby at_35) rfl rfl (l' := #[.val (.int p1), .val (.int p2), .val (.int p3), .val (.int p4), .val (.int (0 : Int32)), .val .null, .val (.ref b257), .unset, .unset, .unset, .unset, .unset]) rfl kt)
    show own_Fin _ _ _ _ (T259.setTop (mkF m 37 #[.val (.int p1), .val (.int p2), .val (.int p3), .val (.int p4), .val (.int (0 : Int32)), .val .null, .val (.ref b257), .unset, .unset, .unset, .unset, .unset] []))
    obtain ⟨T261, h261, X261, e261, E261, A261, D261, -, st261⟩ := newO X259 hx hZ hown (hw _ (List.mem_of_getElem? (i := 7) rfl)) (hw _ (List.mem_of_getElem? (i := 8) rfl)) (hw _ (List.mem_of_getElem? (i := 9) rfl)) e259' (g := (mkF m 37 #[.val (.int p1), .val (.int p2), .val (.int p3), .val (.int p4), .val (.int (0 : Int32)), .val .null, .val (.ref b257), .unset, .unset, .unset, .unset, .unset] [])) rfl (hb hby at_37) (by decide) (by decide)
    obtain ⟨b261, g261⟩ : ∃ z, z = h259.size := ⟨_, rfl⟩
    rw [← g261] at A261 D261 st261
    have zs262 := Nat.le_trans zs260 E261.1
    have od262 := od260.ext E261
    have g_b261 : n0 ≤ b261 := Nat.le_trans zs260 (Nat.le_of_eq g261.symm)
    have ne_oe_b261 : oe ≠ b261 := od262.ne (EEM).lt g_b261
    have ne_b257_b261 : b257 ≠ b261 := Nat.ne_of_lt (Nat.lt_of_lt_of_le ((A257.keep K259)).lt (Nat.le_of_eq g261.symm))
    have F261_modCount : Fld Z h261 b261 "java/util/AbstractList" "modCount" "I" (.int (0 : Int32)) := D261 (Or.inl (hw _ (List.mem_of_getElem? (i := 29) rfl))) (ty := .int) (by decide)
    have F261_elementData : Fld Z h261 b261 "java/util/ArrayList" "elementData" "[Ljava/lang/Object;" .null := D261 (Or.inl (hw _ (List.mem_of_getElem? (i := 32) rfl))) (ty := (.array (.object "java/lang/Object"))) (by decide)
    refine own_go ?_ (fun tq kt => st261 _ kt)
    show own_Fin _ _ _ _ (T261.setTop (mkF m 40 #[.val (.int p1), .val (.int p2), .val (.int p3), .val (.int p4), .val (.int (0 : Int32)), .val .null, .val (.ref b257), .unset, .unset, .unset, .unset, .unset] [(.ref b261)]))
    refine own_go ?_ (fun tq kt => XS.dup X261.here hx rfl (hb hby at_40) rfl rfl kt)
    show own_Fin _ _ _ _ (T261.setTop (mkF m 41 #[.val (.int p1), .val (.int p2), .val (.int p3), .val (.int p4), .val (.int (0 : Int32)), .val .null, .val (.ref b257), .unset, .unset, .unset, .unset, .unset] [(.ref b261), (.ref b261)]))
    obtain ⟨_, _, ⟨T263, L263, k263, n263⟩, -, X263, ⟨Lc263, hQ263, l263, y263, z263⟩, st263⟩ := X261.specialBack hx (y := (⟨"java/util/ArrayList", "<init>", "()V"⟩ : MethodName)) rfl hown (mvT hZ (hw _ (List.mem_of_getElem? (i := 10) rfl))) (mvT hZ (hw _ (List.mem_of_getElem? (i := 11) rfl))) (mvT hZ (hw _ (List.mem_of_getElem? (i := 12) rfl))) (by decide) (backOf (W := 1) (rm2 l Z a0 hw [] b261 de h261 n0 zs262 od262 A261 F261_modCount F261_elementData g_b261  SDE) hZ (hw _ (List.mem_of_getElem? (i := 12) rfl)) (hw _ (List.mem_of_getElem? (i := 9) rfl)) (by decide) (by decide)) (g := (mkF m 41 #[.val (.int p1), .val (.int p2), .val (.int p3), .val (.int p4), .val (.int (0 : Int32)), .val .null, .val (.ref b257), .unset, .unset, .unset, .unset, .unset] [(.ref b261), (.ref b261)])) rfl (by rw [hml]; rfl) (Steps.refl _) (a := b261) (argsL := []) (rest := [(.ref b261)]) (lenOf own_pd0 rfl) rfl (by show 2 * 0 + _ ≤ _; exact Nat.le_of_eq rfl) (hb hby at_41) (fun _ _ => ⟨rfl, e261, (by decide : 2 + 0 ≤ _), (by decide : 6 + 0 ≤ _)⟩)
    dsimp only [Pt.U, Pt.locs, Pt.cells, Pt.slots] at X263 l263 y263 z263 st263 hQ263
    subst l263 y263 z263
    obtain ⟨rfl, N263q, K263, F263_0, F263_1⟩ := hQ263
    have N263 := Fr.app N259 N263q
    obtain ⟨h263, e263⟩ : ∃ z, z = T263.heap := ⟨_, rfl⟩
    have e263' := e263.symm
    rw [← e263] at K263 F263_0 F263_1
    have zs264 := Nat.le_trans zs262 K263.1
    have od264 := od262.keep K263 (allS g_b261 all0)
    refine own_go ?_ (fun tq kt => st263.trans kt)
    show own_Fin _ _ _ _ (T263.setTop (mkF m 44 #[.val (.int p1), .val (.int p2), .val (.int p3), .val (.int p4), .val (.int (0 : Int32)), .val .null, .val (.ref b257), .unset, .unset, .unset, .unset, .unset] [(.ref b261)]))
    refine own_go ?_ (fun tq kt => XS.astore X263.here hx rfl (hb hby at_44) rfl rfl (l' := #[.val (.int p1), .val (.int p2), .val (.int p3), .val (.int p4), .val (.int (0 : Int32)), .val .null, .val (.ref b257), .val (.ref b261), .unset, .unset, .unset, .unset]) rfl kt)
    show own_Fin _ _ _ _ (T263.setTop (mkF m 46 #[.val (.int p1), .val (.int p2), .val (.int p3), .val (.int p4), .val (.int (0 : Int32)), .val .null, .val (.ref b257), .val (.ref b261), .unset, .unset, .unset, .unset] []))
    refine own_go ?_ (fun tq kt => XS.iloadN X263.here hx rfl (hb hby at_46) rfl kt)
    show own_Fin _ _ _ _ (T263.setTop (mkF m 47 #[.val (.int p1), .val (.int p2), .val (.int p3), .val (.int p4), .val (.int (0 : Int32)), .val .null, .val (.ref b257), .val (.ref b261), .unset, .unset, .unset, .unset] [(.int p2)]))
    refine own_go ?_ (fun tq kt => XS.iconst X263.here hx rfl (hb hby at_47) kt)
    show own_Fin _ _ _ _ (T263.setTop (mkF m 48 #[.val (.int p1), .val (.int p2), .val (.int p3), .val (.int p4), .val (.int (0 : Int32)), .val .null, .val (.ref b257), .val (.ref b261), .unset, .unset, .unset, .unset] [(.int (1 : Int32)), (.int p2)]))
    refine own_go ?_ (fun tq kt => XS.iushr X263.here hx rfl (hb hby at_48) rfl kt)
    show own_Fin _ _ _ _ (T263.setTop (mkF m 49 #[.val (.int p1), .val (.int p2), .val (.int p3), .val (.int p4), .val (.int (0 : Int32)), .val .null, .val (.ref b257), .val (.ref b261), .unset, .unset, .unset, .unset] [(.int ((p2.toUInt32 >>> ((1 : Int32) &&& 31).toUInt32).toInt32))]))
    refine own_go ?_ (fun tq kt => XS.sipush X263.here hx rfl (hb hby at_49) kt)
    show own_Fin _ _ _ _ (T263.setTop (mkF m 52 #[.val (.int p1), .val (.int p2), .val (.int p3), .val (.int p4), .val (.int (0 : Int32)), .val .null, .val (.ref b257), .val (.ref b261), .unset, .unset, .unset, .unset] [(.int (255 : Int32)), (.int ((p2.toUInt32 >>> ((1 : Int32) &&& 31).toUInt32).toInt32))]))
    refine own_go ?_ (fun tq kt => XS.iand X263.here hx rfl (hb hby at_52) rfl kt)
    show own_Fin _ _ _ _ (T263.setTop (mkF m 53 #[.val (.int p1), .val (.int p2), .val (.int p3), .val (.int p4), .val (.int (0 : Int32)), .val .null, .val (.ref b257), .val (.ref b261), .unset, .unset, .unset, .unset] [(.int (((p2.toUInt32 >>> ((1 : Int32) &&& 31).toUInt32).toInt32) &&& (255 : Int32)))]))
    refine own_go ?_ (fun tq kt => XS.i2c X263.here hx rfl (hb hby at_53) rfl kt)
    show own_Fin _ _ _ _ (T263.setTop (mkF m 54 #[.val (.int p1), .val (.int p2), .val (.int p3), .val (.int p4), .val (.int (0 : Int32)), .val .null, .val (.ref b257), .val (.ref b261), .unset, .unset, .unset, .unset] [(.int ((((p2.toUInt32 >>> ((1 : Int32) &&& 31).toUInt32).toInt32) &&& (255 : Int32)).toUInt32.toUInt16.toUInt32.toInt32))]))
    obtain ⟨_, _, ⟨T265, L265, k265, n265⟩, -, X265, ⟨Lc265, hQ265, l265, y265, z265⟩, st265⟩ := Jvm.LawKit.callS X263 hx (y := (⟨"java/lang/String", "valueOf", "(C)Ljava/lang/String;"⟩ : MethodName)) hown (mvT hZ (hw _ (List.mem_of_getElem? (i := 33) rfl))) (mvT hZ (hw _ (List.mem_of_getElem? (i := 34) rfl))) (mvT hZ (hw _ (List.mem_of_getElem? (i := 35) rfl))) (mvT hZ (hw _ (List.mem_of_getElem? (i := 36) rfl))) (by decide) (backOf (W := 0) (rm6 l Z a0 hw [] ((((p2.toUInt32 >>> ((1 : Int32) &&& 31).toUInt32).toInt32) &&& (255 : Int32)).toUInt32.toUInt16.toUInt32.toInt32) cs0 h263 n0 zs264 od264 SCS hcs (own_c255 _)) hZ (hw _ (List.mem_of_getElem? (i := 36) rfl)) (hw _ (List.mem_of_getElem? (i := 35) rfl)) (by decide) (by decide)) (g := (mkF m 54 #[.val (.int p1), .val (.int p2), .val (.int p3), .val (.int p4), .val (.int (0 : Int32)), .val .null, .val (.ref b257), .val (.ref b261), .unset, .unset, .unset, .unset] [(.int ((((p2.toUInt32 >>> ((1 : Int32) &&& 31).toUInt32).toInt32) &&& (255 : Int32)).toUInt32.toUInt16.toUInt32.toInt32))])) rfl (by rw [hml]; rfl) (argsL := [(.int ((((p2.toUInt32 >>> ((1 : Int32) &&& 31).toUInt32).toInt32) &&& (255 : Int32)).toUInt32.toUInt16.toUInt32.toInt32))]) (rest := []) (lenOf own_pd11 rfl) rfl (by show 2 * 0 + _ ≤ _; exact Nat.le_of_eq rfl) (hb hby at_54) (fun _ _ => ⟨rfl, e263', (by decide : 2 + 2 ≤ _), (by decide : 6 + 5 ≤ _)⟩)
    dsimp only [Pt.U, Pt.locs, Pt.cells, Pt.slots] at X265 l265 y265 z265 st265 hQ265
    subst l265 y265 z265
    obtain ⟨x265, t265, k265, rfl, N265q, E265, lo265, lt265, Ex265, Fc265, Fv265, V265⟩ := hQ265
    have N265 := Fr.app N263 N265q
    obtain ⟨h265, e265⟩ : ∃ z, z = T265.heap := ⟨_, rfl⟩
    have e265' := e265.symm
    rw [← e265] at E265 Ex265 Fc265 Fv265 V265
    have zs266 := Nat.le_trans zs264 E265.1
    have od266 := od264.ext E265
    have g_x265 : n0 ≤ x265 := Nat.le_trans zs264 lo265
    have ne_oe_x265 : oe ≠ x265 := od266.ne (EEM).lt g_x265
    have ne_b257_x265 : b257 ≠ x265 := Nat.ne_of_lt (Nat.lt_of_lt_of_le ((((A257.keep K259).ext E261).keep K263)).lt lo265)
    have ne_b261_x265 : b261 ≠ x265 := Nat.ne_of_lt (Nat.lt_of_lt_of_le ((A261.keep K263)).lt lo265)
    have g_t265 : n0 ≤ t265 := Nat.le_trans zs264 lt265
    have ne_oe_t265 : oe ≠ t265 := od266.ne (EEM).lt g_t265
    have ne_b257_t265 : b257 ≠ t265 := Nat.ne_of_lt (Nat.lt_of_lt_of_le ((((A257.keep K259).ext E261).keep K263)).lt lt265)
    have ne_b261_t265 : b261 ≠ t265 := Nat.ne_of_lt (Nat.lt_of_lt_of_le ((A261.keep K263)).lt lt265)
    refine own_go ?_ (fun tq kt => st265 _ kt)
    show own_Fin _ _ _ _ (T265.setTop (mkF m 57 #[.val (.int p1), .val (.int p2), .val (.int p3), .val (.int p4), .val (.int (0 : Int32)), .val .null, .val (.ref b257), .val (.ref b261), .unset, .unset, .unset, .unset] [(.ref x265)]))
    refine own_go ?_ (fun tq kt => XS.astore X265.here hx rfl (hb hby at_57) rfl rfl (l' := #[.val (.int p1), .val (.int p2), .val (.int p3), .val (.int p4), .val (.int (0 : Int32)), .val .null, .val (.ref b257), .val (.ref b261), .val (.ref x265), .unset, .unset, .unset]) rfl kt)
    show own_Fin _ _ _ _ (T265.setTop (mkF m 59 #[.val (.int p1), .val (.int p2), .val (.int p3), .val (.int p4), .val (.int (0 : Int32)), .val .null, .val (.ref b257), .val (.ref b261), .val (.ref x265), .unset, .unset, .unset] []))
    refine own_go ?_ (fun tq kt => XS.iloadN X265.here hx rfl (hb hby at_59) rfl kt)
    show own_Fin _ _ _ _ (T265.setTop (mkF m 60 #[.val (.int p1), .val (.int p2), .val (.int p3), .val (.int p4), .val (.int (0 : Int32)), .val .null, .val (.ref b257), .val (.ref b261), .val (.ref x265), .unset, .unset, .unset] [(.int p2)]))
    refine own_go ?_ (fun tq kt => XS.sipush X265.here hx rfl (hb hby at_60) kt)
    show own_Fin _ _ _ _ (T265.setTop (mkF m 63 #[.val (.int p1), .val (.int p2), .val (.int p3), .val (.int p4), .val (.int (0 : Int32)), .val .null, .val (.ref b257), .val (.ref b261), .val (.ref x265), .unset, .unset, .unset] [(.int (512 : Int32)), (.int p2)]))
    refine own_go ?_ (fun tq kt => XS.iand X265.here hx rfl (hb hby at_63) rfl kt)
    show own_Fin _ _ _ _ (T265.setTop (mkF m 64 #[.val (.int p1), .val (.int p2), .val (.int p3), .val (.int p4), .val (.int (0 : Int32)), .val .null, .val (.ref b257), .val (.ref b261), .val (.ref x265), .unset, .unset, .unset] [(.int (p2 &&& (512 : Int32)))]))
    by_cases hc64_267 : (p2 &&& (512 : Int32)) = (0 : Int32)
    · refine own_go ?_ (fun tq kt => XS.ifYes X265.here hx rfl (pc0 := 64) (pc' := 71) rfl (hb hby at_64) rfl ((if0 _ _).trans (teq (hc64_267 : (p2 &&& (512 : Int32)) = (0 : Int32))).1) (by decide) (by decide) kt)
      show own_Fin _ _ _ _ (T265.setTop (mkF m 71 #[.val (.int p1), .val (.int p2), .val (.int p3), .val (.int p4), .val (.int (0 : Int32)), .val .null, .val (.ref b257), .val (.ref b261), .val (.ref x265), .unset, .unset, .unset] []))
      refine own_go ?_ (fun tq kt => XS.iconst X265.here hx rfl (hb hby at_71) kt)
      show own_Fin _ _ _ _ (T265.setTop (mkF m 72 #[.val (.int p1), .val (.int p2), .val (.int p3), .val (.int p4), .val (.int (0 : Int32)), .val .null, .val (.ref b257), .val (.ref b261), .val (.ref x265), .unset, .unset, .unset] [(.int (0 : Int32))]))
      refine own_go ?_ (fun tq kt => XS.istore X265.here hx rfl (hb hby at_72) rfl (l' := #[.val (.int p1), .val (.int p2), .val (.int p3), .val (.int p4), .val (.int (0 : Int32)), .val .null, .val (.ref b257), .val (.ref b261), .val (.ref x265), .val (.int (0 : Int32)), .unset, .unset]) rfl kt)
      show own_Fin _ _ _ _ (T265.setTop (mkF m 74 #[.val (.int p1), .val (.int p2), .val (.int p3), .val (.int p4), .val (.int (0 : Int32)), .val .null, .val (.ref b257), .val (.ref b261), .val (.ref x265), .val (.int (0 : Int32)), .unset, .unset] []))
      obtain ⟨T268, h268, X268, e268, E268, A268, D268, -, st268⟩ := newO X265 hx hZ hown (hw _ (List.mem_of_getElem? (i := 57) rfl)) (hw _ (List.mem_of_getElem? (i := 58) rfl)) (hw _ (List.mem_of_getElem? (i := 59) rfl)) e265' (g := (mkF m 74 #[.val (.int p1), .val (.int p2), .val (.int p3), .val (.int p4), .val (.int (0 : Int32)), .val .null, .val (.ref b257), .val (.ref b261), .val (.ref x265), .val (.int (0 : Int32)), .unset, .unset] [])) rfl (hb hby at_74) (by decide) (by decide)
      obtain ⟨b268, g268⟩ : ∃ z, z = h265.size := ⟨_, rfl⟩
      rw [← g268] at A268 D268 st268
      have zs269 := Nat.le_trans zs266 E268.1
      have od269 := od266.ext E268
      have g_b268 : n0 ≤ b268 := Nat.le_trans zs266 (Nat.le_of_eq g268.symm)
      have ne_oe_b268 : oe ≠ b268 := od269.ne (EEM).lt g_b268
      have ne_b257_b268 : b257 ≠ b268 := Nat.ne_of_lt (Nat.lt_of_lt_of_le (((((A257.keep K259).ext E261).keep K263).ext E265)).lt (Nat.le_of_eq g268.symm))
      have ne_b261_b268 : b261 ≠ b268 := Nat.ne_of_lt (Nat.lt_of_lt_of_le (((A261.keep K263).ext E265)).lt (Nat.le_of_eq g268.symm))
      have ne_x265_b268 : x265 ≠ b268 := Nat.ne_of_lt (Nat.lt_of_lt_of_le (Ex265).lt (Nat.le_of_eq g268.symm))
      have ne_t265_b268 : t265 ≠ b268 := Nat.ne_of_lt (Nat.lt_of_lt_of_le (V265).lt (Nat.le_of_eq g268.symm))
      have F268_number : Fld Z h268 b268 "com/example/conformance_check/conformancecheck/document/RationaleRow" "number" "Ljava/lang/Integer;" .null := D268 (Or.inr (hw _ (List.mem_of_getElem? (i := 65) rfl))) (ty := (.object "java/lang/Integer")) (by decide)
      have F268_index : Fld Z h268 b268 "com/example/conformance_check/conformancecheck/document/RationaleRow" "index" "I" (.int (0 : Int32)) := D268 (Or.inr (hw _ (List.mem_of_getElem? (i := 67) rfl))) (ty := .int) (by decide)
      have F268_line : Fld Z h268 b268 "com/example/conformance_check/conformancecheck/document/RationaleRow" "line" "I" (.int (0 : Int32)) := D268 (Or.inr (hw _ (List.mem_of_getElem? (i := 69) rfl))) (ty := .int) (by decide)
      have F268_component : Fld Z h268 b268 "com/example/conformance_check/conformancecheck/document/RationaleRow" "component" "Ljava/lang/String;" .null := D268 (Or.inr (hw _ (List.mem_of_getElem? (i := 71) rfl))) (ty := (.object "java/lang/String")) (by decide)
      have F268_named : Fld Z h268 b268 "com/example/conformance_check/conformancecheck/document/RationaleRow" "named" "Ljava/util/List;" .null := D268 (Or.inr (hw _ (List.mem_of_getElem? (i := 116) rfl))) (ty := (.object "java/util/List")) (by decide)
      have F268_dependencies : Fld Z h268 b268 "com/example/conformance_check/conformancecheck/document/RationaleRow" "dependencies" "Ljava/util/List;" .null := D268 (Or.inr (hw _ (List.mem_of_getElem? (i := 118) rfl))) (ty := (.object "java/util/List")) (by decide)
      have F268_givesReferences : Fld Z h268 b268 "com/example/conformance_check/conformancecheck/document/RationaleRow" "givesReferences" "Z" (.int (0 : Int32)) := D268 (Or.inr (hw _ (List.mem_of_getElem? (i := 120) rfl))) (ty := .boolean) (by decide)
      refine own_go ?_ (fun tq kt => st268 _ kt)
      show own_Fin _ _ _ _ (T268.setTop (mkF m 77 #[.val (.int p1), .val (.int p2), .val (.int p3), .val (.int p4), .val (.int (0 : Int32)), .val .null, .val (.ref b257), .val (.ref b261), .val (.ref x265), .val (.int (0 : Int32)), .unset, .unset] [(.ref b268)]))
      refine own_go ?_ (fun tq kt => XS.dup X268.here hx rfl (hb hby at_77) rfl rfl kt)
      show own_Fin _ _ _ _ (T268.setTop (mkF m 78 #[.val (.int p1), .val (.int p2), .val (.int p3), .val (.int p4), .val (.int (0 : Int32)), .val .null, .val (.ref b257), .val (.ref b261), .val (.ref x265), .val (.int (0 : Int32)), .unset, .unset] [(.ref b268), (.ref b268)]))
      refine own_go ?_ (fun tq kt => XS.aload X268.here hx rfl (hb hby at_78) rfl rfl kt)
      show own_Fin _ _ _ _ (T268.setTop (mkF m 80 #[.val (.int p1), .val (.int p2), .val (.int p3), .val (.int p4), .val (.int (0 : Int32)), .val .null, .val (.ref b257), .val (.ref b261), .val (.ref x265), .val (.int (0 : Int32)), .unset, .unset] [.null, (.ref b268), (.ref b268)]))
      refine own_go ?_ (fun tq kt => XS.iloadN X268.here hx rfl (hb hby at_80) rfl kt)
      show own_Fin _ _ _ _ (T268.setTop (mkF m 81 #[.val (.int p1), .val (.int p2), .val (.int p3), .val (.int p4), .val (.int (0 : Int32)), .val .null, .val (.ref b257), .val (.ref b261), .val (.ref x265), .val (.int (0 : Int32)), .unset, .unset] [(.int p3), .null, (.ref b268), (.ref b268)]))
      refine own_go ?_ (fun tq kt => XS.iloadN X268.here hx rfl (hb hby at_81) rfl kt)
      show own_Fin _ _ _ _ (T268.setTop (mkF m 82 #[.val (.int p1), .val (.int p2), .val (.int p3), .val (.int p4), .val (.int (0 : Int32)), .val .null, .val (.ref b257), .val (.ref b261), .val (.ref x265), .val (.int (0 : Int32)), .unset, .unset] [(.int p4), (.int p3), .null, (.ref b268), (.ref b268)]))
      refine own_go ?_ (fun tq kt => XS.aload X268.here hx rfl (hb hby at_82) rfl rfl kt)
      show own_Fin _ _ _ _ (T268.setTop (mkF m 84 #[.val (.int p1), .val (.int p2), .val (.int p3), .val (.int p4), .val (.int (0 : Int32)), .val .null, .val (.ref b257), .val (.ref b261), .val (.ref x265), .val (.int (0 : Int32)), .unset, .unset] [(.ref x265), (.int p4), (.int p3), .null, (.ref b268), (.ref b268)]))
      refine own_go ?_ (fun tq kt => XS.aload X268.here hx rfl (hb hby at_84) rfl rfl kt)
      show own_Fin _ _ _ _ (T268.setTop (mkF m 86 #[.val (.int p1), .val (.int p2), .val (.int p3), .val (.int p4), .val (.int (0 : Int32)), .val .null, .val (.ref b257), .val (.ref b261), .val (.ref x265), .val (.int (0 : Int32)), .unset, .unset] [(.ref b257), (.ref x265), (.int p4), (.int p3), .null, (.ref b268), (.ref b268)]))
      refine own_go ?_ (fun tq kt => XS.aload X268.here hx rfl (hb hby at_86) rfl rfl kt)
      show own_Fin _ _ _ _ (T268.setTop (mkF m 88 #[.val (.int p1), .val (.int p2), .val (.int p3), .val (.int p4), .val (.int (0 : Int32)), .val .null, .val (.ref b257), .val (.ref b261), .val (.ref x265), .val (.int (0 : Int32)), .unset, .unset] [(.ref b261), (.ref b257), (.ref x265), (.int p4), (.int p3), .null, (.ref b268), (.ref b268)]))
      refine own_go ?_ (fun tq kt => XS.iload X268.here hx rfl (hb hby at_88) rfl kt)
      show own_Fin _ _ _ _ (T268.setTop (mkF m 90 #[.val (.int p1), .val (.int p2), .val (.int p3), .val (.int p4), .val (.int (0 : Int32)), .val .null, .val (.ref b257), .val (.ref b261), .val (.ref x265), .val (.int (0 : Int32)), .unset, .unset] [(.int (0 : Int32)), (.ref b261), (.ref b257), (.ref x265), (.int p4), (.int p3), .null, (.ref b268), (.ref b268)]))
      obtain ⟨_, _, ⟨T270, L270, k270, n270⟩, -, X270, ⟨Lc270, hQ270, l270, y270, z270⟩, st270⟩ := X268.specialBack hx (y := (⟨"com/example/conformance_check/conformancecheck/document/RationaleRow", "<init>", "(Ljava/lang/Integer;IILjava/lang/String;Ljava/util/List;Ljava/util/List;Z)V"⟩ : MethodName)) rfl hown (mvT hZ (hw _ (List.mem_of_getElem? (i := 60) rfl))) (mvT hZ (hw _ (List.mem_of_getElem? (i := 61) rfl))) (mvT hZ (hw _ (List.mem_of_getElem? (i := 62) rfl))) (by decide) (backOf (W := 1) (rm10 l Z a0 hw [] b268 .null p3 p4 x265 b257 b261 (0 : Int32) mA mL mR h268 n0 zs269  A268 F268_number F268_index F268_line F268_component F268_named F268_dependencies F268_givesReferences g_b268 rfl (((((A257.keep K259).ext E261).keep K263).ext E265).ext E268) (((A261.keep K263).ext E265).ext E268) MA ML MR) hZ (hw _ (List.mem_of_getElem? (i := 62) rfl)) (hw _ (List.mem_of_getElem? (i := 59) rfl)) (by decide) (by decide)) (g := (mkF m 90 #[.val (.int p1), .val (.int p2), .val (.int p3), .val (.int p4), .val (.int (0 : Int32)), .val .null, .val (.ref b257), .val (.ref b261), .val (.ref x265), .val (.int (0 : Int32)), .unset, .unset] [(.int (0 : Int32)), (.ref b261), (.ref b257), (.ref x265), (.int p4), (.int p3), .null, (.ref b268), (.ref b268)])) rfl (by rw [hml]; rfl) (Steps.refl _) (a := b268) (argsL := [.null, (.int p3), (.int p4), (.ref x265), (.ref b257), (.ref b261), (.int (0 : Int32))]) (rest := [(.ref b268)]) (lenOf own_pd12 rfl) rfl (by show 2 * 0 + _ ≤ _; exact Nat.le_of_eq rfl) (hb hby at_90) (fun _ _ => ⟨rfl, e268, (by decide : 5 + 2 ≤ _), (by decide : 18 + 4 ≤ _)⟩)
      dsimp only [Pt.U, Pt.locs, Pt.cells, Pt.slots] at X270 l270 y270 z270 st270 hQ270
      subst l270 y270 z270
      obtain ⟨rfl, N270q, K270, F270_0, F270_1, F270_2, F270_3, F270_4⟩ := hQ270
      have N270 := Fr.app N265 N270q
      obtain ⟨h270, e270⟩ : ∃ z, z = T270.heap := ⟨_, rfl⟩
      have e270' := e270.symm
      rw [← e270] at K270 F270_0 F270_1 F270_2 F270_3 F270_4
      have zs271 := Nat.le_trans zs269 K270.1
      have od271 := od269.keep K270 (allS g_b268 all0)
      refine own_go ?_ (fun tq kt => st270.trans kt)
      show own_Fin _ _ _ _ (T270.setTop (mkF m 93 #[.val (.int p1), .val (.int p2), .val (.int p3), .val (.int p4), .val (.int (0 : Int32)), .val .null, .val (.ref b257), .val (.ref b261), .val (.ref x265), .val (.int (0 : Int32)), .unset, .unset] [(.ref b268)]))
      refine own_go ?_ (fun tq kt => XS.astore X270.here hx rfl (hb hby at_93) rfl rfl (l' := #[.val (.int p1), .val (.int p2), .val (.int p3), .val (.int p4), .val (.int (0 : Int32)), .val .null, .val (.ref b257), .val (.ref b261), .val (.ref x265), .val (.int (0 : Int32)), .val (.ref b268), .unset]) rfl kt)
      show own_Fin _ _ _ _ (T270.setTop (mkF m 95 #[.val (.int p1), .val (.int p2), .val (.int p3), .val (.int p4), .val (.int (0 : Int32)), .val .null, .val (.ref b257), .val (.ref b261), .val (.ref x265), .val (.int (0 : Int32)), .val (.ref b268), .unset] []))
      refine own_go ?_ (fun tq kt => XS.aload X270.here hx rfl (hb hby at_95) rfl rfl kt)
      show own_Fin _ _ _ _ (T270.setTop (mkF m 97 #[.val (.int p1), .val (.int p2), .val (.int p3), .val (.int p4), .val (.int (0 : Int32)), .val .null, .val (.ref b257), .val (.ref b261), .val (.ref x265), .val (.int (0 : Int32)), .val (.ref b268), .unset] [(.ref b268)]))
      obtain ⟨cq272, kq272, q272a, q272b, q272c⟩ := isOf hZ e270' (A268.keep K270)
      obtain ⟨_, _, ⟨T272, L272, k272, n272⟩, -, X272, ⟨Lc272, hQ272, l272, y272, z272⟩, st272⟩ := X270.virtualBack hx (y := (⟨"com/example/conformance_check/conformancecheck/document/RationaleRow", "number", "()Ljava/util/OptionalInt;"⟩ : MethodName)) (z := (⟨"com/example/conformance_check/conformancecheck/document/RationaleRow", "number", "()Ljava/util/OptionalInt;"⟩ : MethodName)) hown (mvT hZ (hw _ (List.mem_of_getElem? (i := 121) rfl))) (mvT hZ (hw _ (List.mem_of_getElem? (i := 122) rfl))) (notFace_of_selects (args := #[]) (mvT hZ (hw _ (List.mem_of_getElem? (i := 124) rfl)))) (mvT hZ (hw _ (List.mem_of_getElem? (i := 124) rfl))) (mvT hZ (hw _ (List.mem_of_getElem? (i := 123) rfl))) (by decide) (backOf (W := 0) (rm15n l Z a0 hw [] b268 oe h270 n0 zs271 od271 SEM F270_0) hZ (hw _ (List.mem_of_getElem? (i := 125) rfl)) (hw _ (List.mem_of_getElem? (i := 59) rfl)) (by decide) (by decide)) q272a q272c (g := (mkF m 97 #[.val (.int p1), .val (.int p2), .val (.int p3), .val (.int p4), .val (.int (0 : Int32)), .val .null, .val (.ref b257), .val (.ref b261), .val (.ref x265), .val (.int (0 : Int32)), .val (.ref b268), .unset] [(.ref b268)])) rfl (by rw [hml]; rfl) (Steps.refl _) (argsL := []) (rest := []) (lenOf own_pd8 rfl) rfl (by show 2 * 0 + _ ≤ _; exact Nat.le_of_eq rfl) (hb hby at_97) (fun _ _ => ⟨rfl, e270', (by decide : 7 + 0 ≤ _), (by decide : 22 + 0 ≤ _)⟩)
      dsimp only [Pt.U, Pt.locs, Pt.cells, Pt.slots] at X272 l272 y272 z272 st272 hQ272
      subst l272 y272 z272
      obtain ⟨rfl, N272q, e272⟩ := hQ272
      have N272 := Fr.app N270 N272q
      refine own_go ?_ (fun tq kt => st272.trans kt)
      show own_Fin _ _ _ _ (T272.setTop (mkF m 100 #[.val (.int p1), .val (.int p2), .val (.int p3), .val (.int p4), .val (.int (0 : Int32)), .val .null, .val (.ref b257), .val (.ref b261), .val (.ref x265), .val (.int (0 : Int32)), .val (.ref b268), .unset] [(.ref oe)]))
      refine own_go ?_ (fun tq kt => XS.astore X272.here hx rfl (hb hby at_100) rfl rfl (l' := #[.val (.int p1), .val (.int p2), .val (.int p3), .val (.int p4), .val (.int (0 : Int32)), .val .null, .val (.ref b257), .val (.ref b261), .val (.ref x265), .val (.int (0 : Int32)), .val (.ref b268), .val (.ref oe)]) rfl kt)
      show own_Fin _ _ _ _ (T272.setTop (mkF m 102 #[.val (.int p1), .val (.int p2), .val (.int p3), .val (.int p4), .val (.int (0 : Int32)), .val .null, .val (.ref b257), .val (.ref b261), .val (.ref x265), .val (.int (0 : Int32)), .val (.ref b268), .val (.ref oe)] []))
      refine own_go ?_ (fun tq kt => XS.iload X272.here hx rfl (hb hby at_102) rfl kt)
      show own_Fin _ _ _ _ (T272.setTop (mkF m 104 #[.val (.int p1), .val (.int p2), .val (.int p3), .val (.int p4), .val (.int (0 : Int32)), .val .null, .val (.ref b257), .val (.ref b261), .val (.ref x265), .val (.int (0 : Int32)), .val (.ref b268), .val (.ref oe)] [(.int (0 : Int32))]))
      refine own_go ?_ (fun tq kt => XS.ifNo X272.here hx rfl (hb hby at_104) rfl ((if0 _ _).trans (teq (rfl : (0 : Int32) = (0 : Int32))).2) kt)
      show own_Fin _ _ _ _ (T272.setTop (mkF m 107 #[.val (.int p1), .val (.int p2), .val (.int p3), .val (.int p4), .val (.int (0 : Int32)), .val .null, .val (.ref b257), .val (.ref b261), .val (.ref x265), .val (.int (0 : Int32)), .val (.ref b268), .val (.ref oe)] []))
      refine own_go ?_ (fun tq kt => XS.aload X272.here hx rfl (hb hby at_107) rfl rfl kt)
      show own_Fin _ _ _ _ (T272.setTop (mkF m 109 #[.val (.int p1), .val (.int p2), .val (.int p3), .val (.int p4), .val (.int (0 : Int32)), .val .null, .val (.ref b257), .val (.ref b261), .val (.ref x265), .val (.int (0 : Int32)), .val (.ref b268), .val (.ref oe)] [(.ref oe)]))
      obtain ⟨cq273, kq273, q273a, q273b, q273c⟩ := isOf hZ e272 (EEM.ext od271.2)
      obtain ⟨_, _, ⟨T273, L273, k273, n273⟩, -, X273, ⟨Lc273, hQ273, l273, y273, z273⟩, st273⟩ := X272.virtualBack hx (y := (⟨"java/util/OptionalInt", "isPresent", "()Z"⟩ : MethodName)) (z := (⟨"java/util/OptionalInt", "isPresent", "()Z"⟩ : MethodName)) hown (mvT hZ (hw _ (List.mem_of_getElem? (i := 148) rfl))) (mvT hZ (hw _ (List.mem_of_getElem? (i := 149) rfl))) (notFace_of_selects (args := #[]) (mvT hZ (hw _ (List.mem_of_getElem? (i := 151) rfl)))) (mvT hZ (hw _ (List.mem_of_getElem? (i := 151) rfl))) (mvT hZ (hw _ (List.mem_of_getElem? (i := 150) rfl))) (by decide) (backOf (W := 0) (rm19 l Z a0 hw [] oe (0 : Int32) h270 n0 zs271 (FEM.ext od271.2) rfl) hZ (hw _ (List.mem_of_getElem? (i := 152) rfl)) (hw _ (List.mem_of_getElem? (i := 135) rfl)) (by decide) (by decide)) q273a q273c (g := (mkF m 109 #[.val (.int p1), .val (.int p2), .val (.int p3), .val (.int p4), .val (.int (0 : Int32)), .val .null, .val (.ref b257), .val (.ref b261), .val (.ref x265), .val (.int (0 : Int32)), .val (.ref b268), .val (.ref oe)] [(.ref oe)])) rfl (by rw [hml]; rfl) (Steps.refl _) (argsL := []) (rest := []) (lenOf own_pd13 rfl) rfl (by show 2 * 0 + _ ≤ _; exact Nat.le_of_eq rfl) (hb hby at_109) (fun _ _ => ⟨rfl, e272, (by decide : 7 + 0 ≤ _), (by decide : 22 + 0 ≤ _)⟩)
      dsimp only [Pt.U, Pt.locs, Pt.cells, Pt.slots] at X273 l273 y273 z273 st273 hQ273
      subst l273 y273 z273
      obtain ⟨rfl, N273q, e273⟩ := hQ273
      have N273 := Fr.app N272 N273q
      refine own_go ?_ (fun tq kt => st273.trans kt)
      show own_Fin _ _ _ _ (T273.setTop (mkF m 112 #[.val (.int p1), .val (.int p2), .val (.int p3), .val (.int p4), .val (.int (0 : Int32)), .val .null, .val (.ref b257), .val (.ref b261), .val (.ref x265), .val (.int (0 : Int32)), .val (.ref b268), .val (.ref oe)] [(.int (0 : Int32))]))
      refine own_go ?_ (fun tq kt => XS.ifNo X273.here hx rfl (hb hby at_112) rfl ((if0 _ _).trans (teq (rfl : (0 : Int32) = (0 : Int32))).2) kt)
      show own_Fin _ _ _ _ (T273.setTop (mkF m 115 #[.val (.int p1), .val (.int p2), .val (.int p3), .val (.int p4), .val (.int (0 : Int32)), .val .null, .val (.ref b257), .val (.ref b261), .val (.ref x265), .val (.int (0 : Int32)), .val (.ref b268), .val (.ref oe)] []))
      refine own_go ?_ (fun tq kt => XS.iconst X273.here hx rfl (hb hby at_115) kt)
      show own_Fin _ _ _ _ (T273.setTop (mkF m 116 #[.val (.int p1), .val (.int p2), .val (.int p3), .val (.int p4), .val (.int (0 : Int32)), .val .null, .val (.ref b257), .val (.ref b261), .val (.ref x265), .val (.int (0 : Int32)), .val (.ref b268), .val (.ref oe)] [(.int (1 : Int32))]))
      refine own_go ?_ (fun tq kt => XS.goto X273.here hx rfl (pc0 := 116) (pc' := 120) rfl (hb hby at_116) (by decide) (by decide) kt)
      show own_Fin _ _ _ _ (T273.setTop (mkF m 120 #[.val (.int p1), .val (.int p2), .val (.int p3), .val (.int p4), .val (.int (0 : Int32)), .val .null, .val (.ref b257), .val (.ref b261), .val (.ref x265), .val (.int (0 : Int32)), .val (.ref b268), .val (.ref oe)] [(.int (1 : Int32))]))
      refine own_retN X273 hx (t := .boolean) Bd.returns (by simp) (hb hby at_120) hlk ?_ (by decide) (by decide)
      exact ⟨rfl, N273⟩
    · refine own_go ?_ (fun tq kt => XS.ifNo X265.here hx rfl (hb hby at_64) rfl ((if0 _ _).trans (feq (hc64_267 : ¬ ((p2 &&& (512 : Int32)) = (0 : Int32)))).1) kt)
      show own_Fin _ _ _ _ (T265.setTop (mkF m 67 #[.val (.int p1), .val (.int p2), .val (.int p3), .val (.int p4), .val (.int (0 : Int32)), .val .null, .val (.ref b257), .val (.ref b261), .val (.ref x265), .unset, .unset, .unset] []))
      refine own_go ?_ (fun tq kt => XS.iconst X265.here hx rfl (hb hby at_67) kt)
      show own_Fin _ _ _ _ (T265.setTop (mkF m 68 #[.val (.int p1), .val (.int p2), .val (.int p3), .val (.int p4), .val (.int (0 : Int32)), .val .null, .val (.ref b257), .val (.ref b261), .val (.ref x265), .unset, .unset, .unset] [(.int (1 : Int32))]))
      refine own_go ?_ (fun tq kt => XS.goto X265.here hx rfl (pc0 := 68) (pc' := 72) rfl (hb hby at_68) (by decide) (by decide) kt)
      show own_Fin _ _ _ _ (T265.setTop (mkF m 72 #[.val (.int p1), .val (.int p2), .val (.int p3), .val (.int p4), .val (.int (0 : Int32)), .val .null, .val (.ref b257), .val (.ref b261), .val (.ref x265), .unset, .unset, .unset] [(.int (1 : Int32))]))
      refine own_go ?_ (fun tq kt => XS.istore X265.here hx rfl (hb hby at_72) rfl (l' := #[.val (.int p1), .val (.int p2), .val (.int p3), .val (.int p4), .val (.int (0 : Int32)), .val .null, .val (.ref b257), .val (.ref b261), .val (.ref x265), .val (.int (1 : Int32)), .unset, .unset]) rfl kt)
      show own_Fin _ _ _ _ (T265.setTop (mkF m 74 #[.val (.int p1), .val (.int p2), .val (.int p3), .val (.int p4), .val (.int (0 : Int32)), .val .null, .val (.ref b257), .val (.ref b261), .val (.ref x265), .val (.int (1 : Int32)), .unset, .unset] []))
      obtain ⟨T274, h274, X274, e274, E274, A274, D274, -, st274⟩ := newO X265 hx hZ hown (hw _ (List.mem_of_getElem? (i := 57) rfl)) (hw _ (List.mem_of_getElem? (i := 58) rfl)) (hw _ (List.mem_of_getElem? (i := 59) rfl)) e265' (g := (mkF m 74 #[.val (.int p1), .val (.int p2), .val (.int p3), .val (.int p4), .val (.int (0 : Int32)), .val .null, .val (.ref b257), .val (.ref b261), .val (.ref x265), .val (.int (1 : Int32)), .unset, .unset] [])) rfl (hb hby at_74) (by decide) (by decide)
      obtain ⟨b274, g274⟩ : ∃ z, z = h265.size := ⟨_, rfl⟩
      rw [← g274] at A274 D274 st274
      have zs275 := Nat.le_trans zs266 E274.1
      have od275 := od266.ext E274
      have g_b274 : n0 ≤ b274 := Nat.le_trans zs266 (Nat.le_of_eq g274.symm)
      have ne_oe_b274 : oe ≠ b274 := od275.ne (EEM).lt g_b274
      have ne_b257_b274 : b257 ≠ b274 := Nat.ne_of_lt (Nat.lt_of_lt_of_le (((((A257.keep K259).ext E261).keep K263).ext E265)).lt (Nat.le_of_eq g274.symm))
      have ne_b261_b274 : b261 ≠ b274 := Nat.ne_of_lt (Nat.lt_of_lt_of_le (((A261.keep K263).ext E265)).lt (Nat.le_of_eq g274.symm))
      have ne_x265_b274 : x265 ≠ b274 := Nat.ne_of_lt (Nat.lt_of_lt_of_le (Ex265).lt (Nat.le_of_eq g274.symm))
      have ne_t265_b274 : t265 ≠ b274 := Nat.ne_of_lt (Nat.lt_of_lt_of_le (V265).lt (Nat.le_of_eq g274.symm))
      have F274_number : Fld Z h274 b274 "com/example/conformance_check/conformancecheck/document/RationaleRow" "number" "Ljava/lang/Integer;" .null := D274 (Or.inr (hw _ (List.mem_of_getElem? (i := 65) rfl))) (ty := (.object "java/lang/Integer")) (by decide)
      have F274_index : Fld Z h274 b274 "com/example/conformance_check/conformancecheck/document/RationaleRow" "index" "I" (.int (0 : Int32)) := D274 (Or.inr (hw _ (List.mem_of_getElem? (i := 67) rfl))) (ty := .int) (by decide)
      have F274_line : Fld Z h274 b274 "com/example/conformance_check/conformancecheck/document/RationaleRow" "line" "I" (.int (0 : Int32)) := D274 (Or.inr (hw _ (List.mem_of_getElem? (i := 69) rfl))) (ty := .int) (by decide)
      have F274_component : Fld Z h274 b274 "com/example/conformance_check/conformancecheck/document/RationaleRow" "component" "Ljava/lang/String;" .null := D274 (Or.inr (hw _ (List.mem_of_getElem? (i := 71) rfl))) (ty := (.object "java/lang/String")) (by decide)
      have F274_named : Fld Z h274 b274 "com/example/conformance_check/conformancecheck/document/RationaleRow" "named" "Ljava/util/List;" .null := D274 (Or.inr (hw _ (List.mem_of_getElem? (i := 116) rfl))) (ty := (.object "java/util/List")) (by decide)
      have F274_dependencies : Fld Z h274 b274 "com/example/conformance_check/conformancecheck/document/RationaleRow" "dependencies" "Ljava/util/List;" .null := D274 (Or.inr (hw _ (List.mem_of_getElem? (i := 118) rfl))) (ty := (.object "java/util/List")) (by decide)
      have F274_givesReferences : Fld Z h274 b274 "com/example/conformance_check/conformancecheck/document/RationaleRow" "givesReferences" "Z" (.int (0 : Int32)) := D274 (Or.inr (hw _ (List.mem_of_getElem? (i := 120) rfl))) (ty := .boolean) (by decide)
      refine own_go ?_ (fun tq kt => st274 _ kt)
      show own_Fin _ _ _ _ (T274.setTop (mkF m 77 #[.val (.int p1), .val (.int p2), .val (.int p3), .val (.int p4), .val (.int (0 : Int32)), .val .null, .val (.ref b257), .val (.ref b261), .val (.ref x265), .val (.int (1 : Int32)), .unset, .unset] [(.ref b274)]))
      refine own_go ?_ (fun tq kt => XS.dup X274.here hx rfl (hb hby at_77) rfl rfl kt)
      show own_Fin _ _ _ _ (T274.setTop (mkF m 78 #[.val (.int p1), .val (.int p2), .val (.int p3), .val (.int p4), .val (.int (0 : Int32)), .val .null, .val (.ref b257), .val (.ref b261), .val (.ref x265), .val (.int (1 : Int32)), .unset, .unset] [(.ref b274), (.ref b274)]))
      refine own_go ?_ (fun tq kt => XS.aload X274.here hx rfl (hb hby at_78) rfl rfl kt)
      show own_Fin _ _ _ _ (T274.setTop (mkF m 80 #[.val (.int p1), .val (.int p2), .val (.int p3), .val (.int p4), .val (.int (0 : Int32)), .val .null, .val (.ref b257), .val (.ref b261), .val (.ref x265), .val (.int (1 : Int32)), .unset, .unset] [.null, (.ref b274), (.ref b274)]))
      refine own_go ?_ (fun tq kt => XS.iloadN X274.here hx rfl (hb hby at_80) rfl kt)
      show own_Fin _ _ _ _ (T274.setTop (mkF m 81 #[.val (.int p1), .val (.int p2), .val (.int p3), .val (.int p4), .val (.int (0 : Int32)), .val .null, .val (.ref b257), .val (.ref b261), .val (.ref x265), .val (.int (1 : Int32)), .unset, .unset] [(.int p3), .null, (.ref b274), (.ref b274)]))
      refine own_go ?_ (fun tq kt => XS.iloadN X274.here hx rfl (hb hby at_81) rfl kt)
      show own_Fin _ _ _ _ (T274.setTop (mkF m 82 #[.val (.int p1), .val (.int p2), .val (.int p3), .val (.int p4), .val (.int (0 : Int32)), .val .null, .val (.ref b257), .val (.ref b261), .val (.ref x265), .val (.int (1 : Int32)), .unset, .unset] [(.int p4), (.int p3), .null, (.ref b274), (.ref b274)]))
      refine own_go ?_ (fun tq kt => XS.aload X274.here hx rfl (hb hby at_82) rfl rfl kt)
      show own_Fin _ _ _ _ (T274.setTop (mkF m 84 #[.val (.int p1), .val (.int p2), .val (.int p3), .val (.int p4), .val (.int (0 : Int32)), .val .null, .val (.ref b257), .val (.ref b261), .val (.ref x265), .val (.int (1 : Int32)), .unset, .unset] [(.ref x265), (.int p4), (.int p3), .null, (.ref b274), (.ref b274)]))
      refine own_go ?_ (fun tq kt => XS.aload X274.here hx rfl (hb hby at_84) rfl rfl kt)
      show own_Fin _ _ _ _ (T274.setTop (mkF m 86 #[.val (.int p1), .val (.int p2), .val (.int p3), .val (.int p4), .val (.int (0 : Int32)), .val .null, .val (.ref b257), .val (.ref b261), .val (.ref x265), .val (.int (1 : Int32)), .unset, .unset] [(.ref b257), (.ref x265), (.int p4), (.int p3), .null, (.ref b274), (.ref b274)]))
      refine own_go ?_ (fun tq kt => XS.aload X274.here hx rfl (hb hby at_86) rfl rfl kt)
      show own_Fin _ _ _ _ (T274.setTop (mkF m 88 #[.val (.int p1), .val (.int p2), .val (.int p3), .val (.int p4), .val (.int (0 : Int32)), .val .null, .val (.ref b257), .val (.ref b261), .val (.ref x265), .val (.int (1 : Int32)), .unset, .unset] [(.ref b261), (.ref b257), (.ref x265), (.int p4), (.int p3), .null, (.ref b274), (.ref b274)]))
      refine own_go ?_ (fun tq kt => XS.iload X274.here hx rfl (hb hby at_88) rfl kt)
      show own_Fin _ _ _ _ (T274.setTop (mkF m 90 #[.val (.int p1), .val (.int p2), .val (.int p3), .val (.int p4), .val (.int (0 : Int32)), .val .null, .val (.ref b257), .val (.ref b261), .val (.ref x265), .val (.int (1 : Int32)), .unset, .unset] [(.int (1 : Int32)), (.ref b261), (.ref b257), (.ref x265), (.int p4), (.int p3), .null, (.ref b274), (.ref b274)]))
      obtain ⟨_, _, ⟨T276, L276, k276, n276⟩, -, X276, ⟨Lc276, hQ276, l276, y276, z276⟩, st276⟩ := X274.specialBack hx (y := (⟨"com/example/conformance_check/conformancecheck/document/RationaleRow", "<init>", "(Ljava/lang/Integer;IILjava/lang/String;Ljava/util/List;Ljava/util/List;Z)V"⟩ : MethodName)) rfl hown (mvT hZ (hw _ (List.mem_of_getElem? (i := 60) rfl))) (mvT hZ (hw _ (List.mem_of_getElem? (i := 61) rfl))) (mvT hZ (hw _ (List.mem_of_getElem? (i := 62) rfl))) (by decide) (backOf (W := 1) (rm10 l Z a0 hw [] b274 .null p3 p4 x265 b257 b261 (1 : Int32) mA mL mR h274 n0 zs275  A274 F274_number F274_index F274_line F274_component F274_named F274_dependencies F274_givesReferences g_b274 rfl (((((A257.keep K259).ext E261).keep K263).ext E265).ext E274) (((A261.keep K263).ext E265).ext E274) MA ML MR) hZ (hw _ (List.mem_of_getElem? (i := 62) rfl)) (hw _ (List.mem_of_getElem? (i := 59) rfl)) (by decide) (by decide)) (g := (mkF m 90 #[.val (.int p1), .val (.int p2), .val (.int p3), .val (.int p4), .val (.int (0 : Int32)), .val .null, .val (.ref b257), .val (.ref b261), .val (.ref x265), .val (.int (1 : Int32)), .unset, .unset] [(.int (1 : Int32)), (.ref b261), (.ref b257), (.ref x265), (.int p4), (.int p3), .null, (.ref b274), (.ref b274)])) rfl (by rw [hml]; rfl) (Steps.refl _) (a := b274) (argsL := [.null, (.int p3), (.int p4), (.ref x265), (.ref b257), (.ref b261), (.int (1 : Int32))]) (rest := [(.ref b274)]) (lenOf own_pd12 rfl) rfl (by show 2 * 0 + _ ≤ _; exact Nat.le_of_eq rfl) (hb hby at_90) (fun _ _ => ⟨rfl, e274, (by decide : 5 + 2 ≤ _), (by decide : 18 + 4 ≤ _)⟩)
      dsimp only [Pt.U, Pt.locs, Pt.cells, Pt.slots] at X276 l276 y276 z276 st276 hQ276
      subst l276 y276 z276
      obtain ⟨rfl, N276q, K276, F276_0, F276_1, F276_2, F276_3, F276_4⟩ := hQ276
      have N276 := Fr.app N265 N276q
      obtain ⟨h276, e276⟩ : ∃ z, z = T276.heap := ⟨_, rfl⟩
      have e276' := e276.symm
      rw [← e276] at K276 F276_0 F276_1 F276_2 F276_3 F276_4
      have zs277 := Nat.le_trans zs275 K276.1
      have od277 := od275.keep K276 (allS g_b274 all0)
      refine own_go ?_ (fun tq kt => st276.trans kt)
      show own_Fin _ _ _ _ (T276.setTop (mkF m 93 #[.val (.int p1), .val (.int p2), .val (.int p3), .val (.int p4), .val (.int (0 : Int32)), .val .null, .val (.ref b257), .val (.ref b261), .val (.ref x265), .val (.int (1 : Int32)), .unset, .unset] [(.ref b274)]))
      refine own_go ?_ (fun tq kt => XS.astore X276.here hx rfl (hb hby at_93) rfl rfl (l' := #[.val (.int p1), .val (.int p2), .val (.int p3), .val (.int p4), .val (.int (0 : Int32)), .val .null, .val (.ref b257), .val (.ref b261), .val (.ref x265), .val (.int (1 : Int32)), .val (.ref b274), .unset]) rfl kt)
      show own_Fin _ _ _ _ (T276.setTop (mkF m 95 #[.val (.int p1), .val (.int p2), .val (.int p3), .val (.int p4), .val (.int (0 : Int32)), .val .null, .val (.ref b257), .val (.ref b261), .val (.ref x265), .val (.int (1 : Int32)), .val (.ref b274), .unset] []))
      refine own_go ?_ (fun tq kt => XS.aload X276.here hx rfl (hb hby at_95) rfl rfl kt)
      show own_Fin _ _ _ _ (T276.setTop (mkF m 97 #[.val (.int p1), .val (.int p2), .val (.int p3), .val (.int p4), .val (.int (0 : Int32)), .val .null, .val (.ref b257), .val (.ref b261), .val (.ref x265), .val (.int (1 : Int32)), .val (.ref b274), .unset] [(.ref b274)]))
      obtain ⟨cq278, kq278, q278a, q278b, q278c⟩ := isOf hZ e276' (A274.keep K276)
      obtain ⟨_, _, ⟨T278, L278, k278, n278⟩, -, X278, ⟨Lc278, hQ278, l278, y278, z278⟩, st278⟩ := X276.virtualBack hx (y := (⟨"com/example/conformance_check/conformancecheck/document/RationaleRow", "number", "()Ljava/util/OptionalInt;"⟩ : MethodName)) (z := (⟨"com/example/conformance_check/conformancecheck/document/RationaleRow", "number", "()Ljava/util/OptionalInt;"⟩ : MethodName)) hown (mvT hZ (hw _ (List.mem_of_getElem? (i := 121) rfl))) (mvT hZ (hw _ (List.mem_of_getElem? (i := 122) rfl))) (notFace_of_selects (args := #[]) (mvT hZ (hw _ (List.mem_of_getElem? (i := 124) rfl)))) (mvT hZ (hw _ (List.mem_of_getElem? (i := 124) rfl))) (mvT hZ (hw _ (List.mem_of_getElem? (i := 123) rfl))) (by decide) (backOf (W := 0) (rm15n l Z a0 hw [] b274 oe h276 n0 zs277 od277 SEM F276_0) hZ (hw _ (List.mem_of_getElem? (i := 125) rfl)) (hw _ (List.mem_of_getElem? (i := 59) rfl)) (by decide) (by decide)) q278a q278c (g := (mkF m 97 #[.val (.int p1), .val (.int p2), .val (.int p3), .val (.int p4), .val (.int (0 : Int32)), .val .null, .val (.ref b257), .val (.ref b261), .val (.ref x265), .val (.int (1 : Int32)), .val (.ref b274), .unset] [(.ref b274)])) rfl (by rw [hml]; rfl) (Steps.refl _) (argsL := []) (rest := []) (lenOf own_pd8 rfl) rfl (by show 2 * 0 + _ ≤ _; exact Nat.le_of_eq rfl) (hb hby at_97) (fun _ _ => ⟨rfl, e276', (by decide : 7 + 0 ≤ _), (by decide : 22 + 0 ≤ _)⟩)
      dsimp only [Pt.U, Pt.locs, Pt.cells, Pt.slots] at X278 l278 y278 z278 st278 hQ278
      subst l278 y278 z278
      obtain ⟨rfl, N278q, e278⟩ := hQ278
      have N278 := Fr.app N276 N278q
      refine own_go ?_ (fun tq kt => st278.trans kt)
      show own_Fin _ _ _ _ (T278.setTop (mkF m 100 #[.val (.int p1), .val (.int p2), .val (.int p3), .val (.int p4), .val (.int (0 : Int32)), .val .null, .val (.ref b257), .val (.ref b261), .val (.ref x265), .val (.int (1 : Int32)), .val (.ref b274), .unset] [(.ref oe)]))
      refine own_go ?_ (fun tq kt => XS.astore X278.here hx rfl (hb hby at_100) rfl rfl (l' := #[.val (.int p1), .val (.int p2), .val (.int p3), .val (.int p4), .val (.int (0 : Int32)), .val .null, .val (.ref b257), .val (.ref b261), .val (.ref x265), .val (.int (1 : Int32)), .val (.ref b274), .val (.ref oe)]) rfl kt)
      show own_Fin _ _ _ _ (T278.setTop (mkF m 102 #[.val (.int p1), .val (.int p2), .val (.int p3), .val (.int p4), .val (.int (0 : Int32)), .val .null, .val (.ref b257), .val (.ref b261), .val (.ref x265), .val (.int (1 : Int32)), .val (.ref b274), .val (.ref oe)] []))
      refine own_go ?_ (fun tq kt => XS.iload X278.here hx rfl (hb hby at_102) rfl kt)
      show own_Fin _ _ _ _ (T278.setTop (mkF m 104 #[.val (.int p1), .val (.int p2), .val (.int p3), .val (.int p4), .val (.int (0 : Int32)), .val .null, .val (.ref b257), .val (.ref b261), .val (.ref x265), .val (.int (1 : Int32)), .val (.ref b274), .val (.ref oe)] [(.int (0 : Int32))]))
      refine own_go ?_ (fun tq kt => XS.ifNo X278.here hx rfl (hb hby at_104) rfl ((if0 _ _).trans (teq (rfl : (0 : Int32) = (0 : Int32))).2) kt)
      show own_Fin _ _ _ _ (T278.setTop (mkF m 107 #[.val (.int p1), .val (.int p2), .val (.int p3), .val (.int p4), .val (.int (0 : Int32)), .val .null, .val (.ref b257), .val (.ref b261), .val (.ref x265), .val (.int (1 : Int32)), .val (.ref b274), .val (.ref oe)] []))
      refine own_go ?_ (fun tq kt => XS.aload X278.here hx rfl (hb hby at_107) rfl rfl kt)
      show own_Fin _ _ _ _ (T278.setTop (mkF m 109 #[.val (.int p1), .val (.int p2), .val (.int p3), .val (.int p4), .val (.int (0 : Int32)), .val .null, .val (.ref b257), .val (.ref b261), .val (.ref x265), .val (.int (1 : Int32)), .val (.ref b274), .val (.ref oe)] [(.ref oe)]))
      obtain ⟨cq279, kq279, q279a, q279b, q279c⟩ := isOf hZ e278 (EEM.ext od277.2)
      obtain ⟨_, _, ⟨T279, L279, k279, n279⟩, -, X279, ⟨Lc279, hQ279, l279, y279, z279⟩, st279⟩ := X278.virtualBack hx (y := (⟨"java/util/OptionalInt", "isPresent", "()Z"⟩ : MethodName)) (z := (⟨"java/util/OptionalInt", "isPresent", "()Z"⟩ : MethodName)) hown (mvT hZ (hw _ (List.mem_of_getElem? (i := 148) rfl))) (mvT hZ (hw _ (List.mem_of_getElem? (i := 149) rfl))) (notFace_of_selects (args := #[]) (mvT hZ (hw _ (List.mem_of_getElem? (i := 151) rfl)))) (mvT hZ (hw _ (List.mem_of_getElem? (i := 151) rfl))) (mvT hZ (hw _ (List.mem_of_getElem? (i := 150) rfl))) (by decide) (backOf (W := 0) (rm19 l Z a0 hw [] oe (0 : Int32) h276 n0 zs277 (FEM.ext od277.2) rfl) hZ (hw _ (List.mem_of_getElem? (i := 152) rfl)) (hw _ (List.mem_of_getElem? (i := 135) rfl)) (by decide) (by decide)) q279a q279c (g := (mkF m 109 #[.val (.int p1), .val (.int p2), .val (.int p3), .val (.int p4), .val (.int (0 : Int32)), .val .null, .val (.ref b257), .val (.ref b261), .val (.ref x265), .val (.int (1 : Int32)), .val (.ref b274), .val (.ref oe)] [(.ref oe)])) rfl (by rw [hml]; rfl) (Steps.refl _) (argsL := []) (rest := []) (lenOf own_pd13 rfl) rfl (by show 2 * 0 + _ ≤ _; exact Nat.le_of_eq rfl) (hb hby at_109) (fun _ _ => ⟨rfl, e278, (by decide : 7 + 0 ≤ _), (by decide : 22 + 0 ≤ _)⟩)
      dsimp only [Pt.U, Pt.locs, Pt.cells, Pt.slots] at X279 l279 y279 z279 st279 hQ279
      subst l279 y279 z279
      obtain ⟨rfl, N279q, e279⟩ := hQ279
      have N279 := Fr.app N278 N279q
      refine own_go ?_ (fun tq kt => st279.trans kt)
      show own_Fin _ _ _ _ (T279.setTop (mkF m 112 #[.val (.int p1), .val (.int p2), .val (.int p3), .val (.int p4), .val (.int (0 : Int32)), .val .null, .val (.ref b257), .val (.ref b261), .val (.ref x265), .val (.int (1 : Int32)), .val (.ref b274), .val (.ref oe)] [(.int (0 : Int32))]))
      refine own_go ?_ (fun tq kt => XS.ifNo X279.here hx rfl (hb hby at_112) rfl ((if0 _ _).trans (teq (rfl : (0 : Int32) = (0 : Int32))).2) kt)
      show own_Fin _ _ _ _ (T279.setTop (mkF m 115 #[.val (.int p1), .val (.int p2), .val (.int p3), .val (.int p4), .val (.int (0 : Int32)), .val .null, .val (.ref b257), .val (.ref b261), .val (.ref x265), .val (.int (1 : Int32)), .val (.ref b274), .val (.ref oe)] []))
      refine own_go ?_ (fun tq kt => XS.iconst X279.here hx rfl (hb hby at_115) kt)
      show own_Fin _ _ _ _ (T279.setTop (mkF m 116 #[.val (.int p1), .val (.int p2), .val (.int p3), .val (.int p4), .val (.int (0 : Int32)), .val .null, .val (.ref b257), .val (.ref b261), .val (.ref x265), .val (.int (1 : Int32)), .val (.ref b274), .val (.ref oe)] [(.int (1 : Int32))]))
      refine own_go ?_ (fun tq kt => XS.goto X279.here hx rfl (pc0 := 116) (pc' := 120) rfl (hb hby at_116) (by decide) (by decide) kt)
      show own_Fin _ _ _ _ (T279.setTop (mkF m 120 #[.val (.int p1), .val (.int p2), .val (.int p3), .val (.int p4), .val (.int (0 : Int32)), .val .null, .val (.ref b257), .val (.ref b261), .val (.ref x265), .val (.int (1 : Int32)), .val (.ref b274), .val (.ref oe)] [(.int (1 : Int32))]))
      refine own_retN X279 hx (t := .boolean) Bd.returns (by simp) (hb hby at_120) hlk ?_ (by decide) (by decide)
      exact ⟨rfl, N279⟩
  · refine own_go ?_ (fun tq kt => XS.ifNo X0.here hx rfl (hb hby at_3) rfl ((if0 _ _).trans (feq (hc3_256 : ¬ ((p2 &&& (1 : Int32)) = (0 : Int32)))).1) kt)
    show own_Fin _ _ _ _ (s₁.setTop (mkF m 6 #[.val (.int p1), .val (.int p2), .val (.int p3), .val (.int p4), .unset, .unset, .unset, .unset, .unset, .unset, .unset, .unset] []))
    refine own_go ?_ (fun tq kt => XS.iconst X0.here hx rfl (hb hby at_6) kt)
    show own_Fin _ _ _ _ (s₁.setTop (mkF m 7 #[.val (.int p1), .val (.int p2), .val (.int p3), .val (.int p4), .unset, .unset, .unset, .unset, .unset, .unset, .unset, .unset] [(.int (1 : Int32))]))
    refine own_go ?_ (fun tq kt => XS.goto X0.here hx rfl (pc0 := 7) (pc' := 11) rfl (hb hby at_7) (by decide) (by decide) kt)
    show own_Fin _ _ _ _ (s₁.setTop (mkF m 11 #[.val (.int p1), .val (.int p2), .val (.int p3), .val (.int p4), .unset, .unset, .unset, .unset, .unset, .unset, .unset, .unset] [(.int (1 : Int32))]))
    refine own_go ?_ (fun tq kt => XS.istore X0.here hx rfl (hb hby at_11) rfl (l' := #[.val (.int p1), .val (.int p2), .val (.int p3), .val (.int p4), .val (.int (1 : Int32)), .unset, .unset, .unset, .unset, .unset, .unset, .unset]) rfl kt)
    show own_Fin _ _ _ _ (s₁.setTop (mkF m 13 #[.val (.int p1), .val (.int p2), .val (.int p3), .val (.int p4), .val (.int (1 : Int32)), .unset, .unset, .unset, .unset, .unset, .unset, .unset] []))
    refine own_go ?_ (fun tq kt => XS.iload X0.here hx rfl (hb hby at_13) rfl kt)
    show own_Fin _ _ _ _ (s₁.setTop (mkF m 15 #[.val (.int p1), .val (.int p2), .val (.int p3), .val (.int p4), .val (.int (1 : Int32)), .unset, .unset, .unset, .unset, .unset, .unset, .unset] [(.int (1 : Int32))]))
    refine own_go ?_ (fun tq kt => XS.ifNo X0.here hx rfl (hb hby at_15) rfl ((if0 _ _).trans (feq ((by decide) : ¬ ((1 : Int32) = (0 : Int32)))).1) kt)
    show own_Fin _ _ _ _ (s₁.setTop (mkF m 18 #[.val (.int p1), .val (.int p2), .val (.int p3), .val (.int p4), .val (.int (1 : Int32)), .unset, .unset, .unset, .unset, .unset, .unset, .unset] []))
    refine own_go ?_ (fun tq kt => XS.iloadN X0.here hx rfl (hb hby at_18) rfl kt)
    show own_Fin _ _ _ _ (s₁.setTop (mkF m 19 #[.val (.int p1), .val (.int p2), .val (.int p3), .val (.int p4), .val (.int (1 : Int32)), .unset, .unset, .unset, .unset, .unset, .unset, .unset] [(.int p1)]))
    obtain ⟨_, _, ⟨T280, L280, k280, n280⟩, -, X280, ⟨Lc280, hQ280, l280, y280, z280⟩, st280⟩ := Jvm.LawKit.callS X0 hx (y := (⟨"java/lang/Integer", "valueOf", "(I)Ljava/lang/Integer;"⟩ : MethodName)) hown (mvT hZ (hw _ (List.mem_of_getElem? (i := 0) rfl))) (mvT hZ (hw _ (List.mem_of_getElem? (i := 1) rfl))) (mvT hZ (hw _ (List.mem_of_getElem? (i := 2) rfl))) (mvT hZ (hw _ (List.mem_of_getElem? (i := 3) rfl))) (by decide) (backOf (W := 0) (rm1 l Z a0 hw [] p1 ca cl h0 n0 Z0 O0 SHI SCA ACA ZCA BCA) hZ (hw _ (List.mem_of_getElem? (i := 3) rfl)) (hw _ (List.mem_of_getElem? (i := 2) rfl)) (by decide) (by decide)) (g := (mkF m 19 #[.val (.int p1), .val (.int p2), .val (.int p3), .val (.int p4), .val (.int (1 : Int32)), .unset, .unset, .unset, .unset, .unset, .unset, .unset] [(.int p1)])) rfl (by rw [hml]; rfl) (argsL := [(.int p1)]) (rest := []) (lenOf own_pd14 rfl) rfl (by show 2 * 0 + _ ≤ _; exact Nat.le_of_eq rfl) (hb hby at_19) (fun _ _ => ⟨rfl, e0, (by decide : 0 + 1 ≤ _), (by decide : 0 + 1 ≤ _)⟩)
    dsimp only [Pt.U, Pt.locs, Pt.cells, Pt.slots] at X280 l280 y280 z280 st280 hQ280
    subst l280 y280 z280
    obtain ⟨x280, rfl, N280q, E280, Ex280, Fv280⟩ := hQ280
    have N280 := Fr.app N0 N280q
    obtain ⟨h280, e280⟩ : ∃ z, z = T280.heap := ⟨_, rfl⟩
    have e280' := e280.symm
    rw [← e280] at E280 Ex280 Fv280
    have zs281 := Nat.le_trans Z0 E280.1
    have od281 := O0.ext E280
    refine own_go ?_ (fun tq kt => st280 _ kt)
    show own_Fin _ _ _ _ (T280.setTop (mkF m 22 #[.val (.int p1), .val (.int p2), .val (.int p3), .val (.int p4), .val (.int (1 : Int32)), .unset, .unset, .unset, .unset, .unset, .unset, .unset] [(.ref x280)]))
    refine own_go ?_ (fun tq kt => XS.goto X280.here hx rfl (pc0 := 22) (pc' := 26) rfl (hb hby at_22) (by decide) (by decide) kt)
    show own_Fin _ _ _ _ (T280.setTop (mkF m 26 #[.val (.int p1), .val (.int p2), .val (.int p3), .val (.int p4), .val (.int (1 : Int32)), .unset, .unset, .unset, .unset, .unset, .unset, .unset] [(.ref x280)]))
    refine own_go ?_ (fun tq kt => XS.astore X280.here hx rfl (hb hby at_26) rfl rfl (l' := #[.val (.int p1), .val (.int p2), .val (.int p3), .val (.int p4), .val (.int (1 : Int32)), .val (.ref x280), .unset, .unset, .unset, .unset, .unset, .unset]) rfl kt)
    show own_Fin _ _ _ _ (T280.setTop (mkF m 28 #[.val (.int p1), .val (.int p2), .val (.int p3), .val (.int p4), .val (.int (1 : Int32)), .val (.ref x280), .unset, .unset, .unset, .unset, .unset, .unset] []))
    obtain ⟨T282, h282, X282, e282, E282, A282, D282, -, st282⟩ := newO X280 hx hZ hown (hw _ (List.mem_of_getElem? (i := 7) rfl)) (hw _ (List.mem_of_getElem? (i := 8) rfl)) (hw _ (List.mem_of_getElem? (i := 9) rfl)) e280' (g := (mkF m 28 #[.val (.int p1), .val (.int p2), .val (.int p3), .val (.int p4), .val (.int (1 : Int32)), .val (.ref x280), .unset, .unset, .unset, .unset, .unset, .unset] [])) rfl (hb hby at_28) (by decide) (by decide)
    obtain ⟨b282, g282⟩ : ∃ z, z = h280.size := ⟨_, rfl⟩
    rw [← g282] at A282 D282 st282
    have zs283 := Nat.le_trans zs281 E282.1
    have od283 := od281.ext E282
    have g_b282 : n0 ≤ b282 := Nat.le_trans zs281 (Nat.le_of_eq g282.symm)
    have ne_oe_b282 : oe ≠ b282 := od283.ne (EEM).lt g_b282
    have ne_x280_b282 : x280 ≠ b282 := Nat.ne_of_lt (Nat.lt_of_lt_of_le (Ex280).lt (Nat.le_of_eq g282.symm))
    have F282_modCount : Fld Z h282 b282 "java/util/AbstractList" "modCount" "I" (.int (0 : Int32)) := D282 (Or.inl (hw _ (List.mem_of_getElem? (i := 29) rfl))) (ty := .int) (by decide)
    have F282_elementData : Fld Z h282 b282 "java/util/ArrayList" "elementData" "[Ljava/lang/Object;" .null := D282 (Or.inl (hw _ (List.mem_of_getElem? (i := 32) rfl))) (ty := (.array (.object "java/lang/Object"))) (by decide)
    refine own_go ?_ (fun tq kt => st282 _ kt)
    show own_Fin _ _ _ _ (T282.setTop (mkF m 31 #[.val (.int p1), .val (.int p2), .val (.int p3), .val (.int p4), .val (.int (1 : Int32)), .val (.ref x280), .unset, .unset, .unset, .unset, .unset, .unset] [(.ref b282)]))
    refine own_go ?_ (fun tq kt => XS.dup X282.here hx rfl (hb hby at_31) rfl rfl kt)
    show own_Fin _ _ _ _ (T282.setTop (mkF m 32 #[.val (.int p1), .val (.int p2), .val (.int p3), .val (.int p4), .val (.int (1 : Int32)), .val (.ref x280), .unset, .unset, .unset, .unset, .unset, .unset] [(.ref b282), (.ref b282)]))
    obtain ⟨_, _, ⟨T284, L284, k284, n284⟩, -, X284, ⟨Lc284, hQ284, l284, y284, z284⟩, st284⟩ := X282.specialBack hx (y := (⟨"java/util/ArrayList", "<init>", "()V"⟩ : MethodName)) rfl hown (mvT hZ (hw _ (List.mem_of_getElem? (i := 10) rfl))) (mvT hZ (hw _ (List.mem_of_getElem? (i := 11) rfl))) (mvT hZ (hw _ (List.mem_of_getElem? (i := 12) rfl))) (by decide) (backOf (W := 1) (rm2 l Z a0 hw [] b282 de h282 n0 zs283 od283 A282 F282_modCount F282_elementData g_b282  SDE) hZ (hw _ (List.mem_of_getElem? (i := 12) rfl)) (hw _ (List.mem_of_getElem? (i := 9) rfl)) (by decide) (by decide)) (g := (mkF m 32 #[.val (.int p1), .val (.int p2), .val (.int p3), .val (.int p4), .val (.int (1 : Int32)), .val (.ref x280), .unset, .unset, .unset, .unset, .unset, .unset] [(.ref b282), (.ref b282)])) rfl (by rw [hml]; rfl) (Steps.refl _) (a := b282) (argsL := []) (rest := [(.ref b282)]) (lenOf own_pd0 rfl) rfl (by show 2 * 0 + _ ≤ _; exact Nat.le_of_eq rfl) (hb hby at_32) (fun _ _ => ⟨rfl, e282, (by decide : 2 + 0 ≤ _), (by decide : 4 + 0 ≤ _)⟩)
    dsimp only [Pt.U, Pt.locs, Pt.cells, Pt.slots] at X284 l284 y284 z284 st284 hQ284
    subst l284 y284 z284
    obtain ⟨rfl, N284q, K284, F284_0, F284_1⟩ := hQ284
    have N284 := Fr.app N280 N284q
    obtain ⟨h284, e284⟩ : ∃ z, z = T284.heap := ⟨_, rfl⟩
    have e284' := e284.symm
    rw [← e284] at K284 F284_0 F284_1
    have zs285 := Nat.le_trans zs283 K284.1
    have od285 := od283.keep K284 (allS g_b282 all0)
    refine own_go ?_ (fun tq kt => st284.trans kt)
    show own_Fin _ _ _ _ (T284.setTop (mkF m 35 #[.val (.int p1), .val (.int p2), .val (.int p3), .val (.int p4), .val (.int (1 : Int32)), .val (.ref x280), .unset, .unset, .unset, .unset, .unset, .unset] [(.ref b282)]))
    refine own_go ?_ (fun tq kt => XS.astore X284.here hx rfl (hb hby at_35) rfl rfl (l' := #[.val (.int p1), .val (.int p2), .val (.int p3), .val (.int p4), .val (.int (1 : Int32)), .val (.ref x280), .val (.ref b282), .unset, .unset, .unset, .unset, .unset]) rfl kt)
    show own_Fin _ _ _ _ (T284.setTop (mkF m 37 #[.val (.int p1), .val (.int p2), .val (.int p3), .val (.int p4), .val (.int (1 : Int32)), .val (.ref x280), .val (.ref b282), .unset, .unset, .unset, .unset, .unset] []))
    obtain ⟨T286, h286, X286, e286, E286, A286, D286, -, st286⟩ := newO X284 hx hZ hown (hw _ (List.mem_of_getElem? (i := 7) rfl)) (hw _ (List.mem_of_getElem? (i := 8) rfl)) (hw _ (List.mem_of_getElem? (i := 9) rfl)) e284' (g := (mkF m 37 #[.val (.int p1), .val (.int p2), .val (.int p3), .val (.int p4), .val (.int (1 : Int32)), .val (.ref x280), .val (.ref b282), .unset, .unset, .unset, .unset, .unset] [])) rfl (hb hby at_37) (by decide) (by decide)
    obtain ⟨b286, g286⟩ : ∃ z, z = h284.size := ⟨_, rfl⟩
    rw [← g286] at A286 D286 st286
    have zs287 := Nat.le_trans zs285 E286.1
    have od287 := od285.ext E286
    have g_b286 : n0 ≤ b286 := Nat.le_trans zs285 (Nat.le_of_eq g286.symm)
    have ne_oe_b286 : oe ≠ b286 := od287.ne (EEM).lt g_b286
    have ne_x280_b286 : x280 ≠ b286 := Nat.ne_of_lt (Nat.lt_of_lt_of_le (((Ex280.ext E282).keep K284)).lt (Nat.le_of_eq g286.symm))
    have ne_b282_b286 : b282 ≠ b286 := Nat.ne_of_lt (Nat.lt_of_lt_of_le ((A282.keep K284)).lt (Nat.le_of_eq g286.symm))
    have F286_modCount : Fld Z h286 b286 "java/util/AbstractList" "modCount" "I" (.int (0 : Int32)) := D286 (Or.inl (hw _ (List.mem_of_getElem? (i := 29) rfl))) (ty := .int) (by decide)
    have F286_elementData : Fld Z h286 b286 "java/util/ArrayList" "elementData" "[Ljava/lang/Object;" .null := D286 (Or.inl (hw _ (List.mem_of_getElem? (i := 32) rfl))) (ty := (.array (.object "java/lang/Object"))) (by decide)
    refine own_go ?_ (fun tq kt => st286 _ kt)
    show own_Fin _ _ _ _ (T286.setTop (mkF m 40 #[.val (.int p1), .val (.int p2), .val (.int p3), .val (.int p4), .val (.int (1 : Int32)), .val (.ref x280), .val (.ref b282), .unset, .unset, .unset, .unset, .unset] [(.ref b286)]))
    refine own_go ?_ (fun tq kt => XS.dup X286.here hx rfl (hb hby at_40) rfl rfl kt)
    show own_Fin _ _ _ _ (T286.setTop (mkF m 41 #[.val (.int p1), .val (.int p2), .val (.int p3), .val (.int p4), .val (.int (1 : Int32)), .val (.ref x280), .val (.ref b282), .unset, .unset, .unset, .unset, .unset] [(.ref b286), (.ref b286)]))
    obtain ⟨_, _, ⟨T288, L288, k288, n288⟩, -, X288, ⟨Lc288, hQ288, l288, y288, z288⟩, st288⟩ := X286.specialBack hx (y := (⟨"java/util/ArrayList", "<init>", "()V"⟩ : MethodName)) rfl hown (mvT hZ (hw _ (List.mem_of_getElem? (i := 10) rfl))) (mvT hZ (hw _ (List.mem_of_getElem? (i := 11) rfl))) (mvT hZ (hw _ (List.mem_of_getElem? (i := 12) rfl))) (by decide) (backOf (W := 1) (rm2 l Z a0 hw [] b286 de h286 n0 zs287 od287 A286 F286_modCount F286_elementData g_b286  SDE) hZ (hw _ (List.mem_of_getElem? (i := 12) rfl)) (hw _ (List.mem_of_getElem? (i := 9) rfl)) (by decide) (by decide)) (g := (mkF m 41 #[.val (.int p1), .val (.int p2), .val (.int p3), .val (.int p4), .val (.int (1 : Int32)), .val (.ref x280), .val (.ref b282), .unset, .unset, .unset, .unset, .unset] [(.ref b286), (.ref b286)])) rfl (by rw [hml]; rfl) (Steps.refl _) (a := b286) (argsL := []) (rest := [(.ref b286)]) (lenOf own_pd0 rfl) rfl (by show 2 * 0 + _ ≤ _; exact Nat.le_of_eq rfl) (hb hby at_41) (fun _ _ => ⟨rfl, e286, (by decide : 3 + 0 ≤ _), (by decide : 7 + 0 ≤ _)⟩)
    dsimp only [Pt.U, Pt.locs, Pt.cells, Pt.slots] at X288 l288 y288 z288 st288 hQ288
    subst l288 y288 z288
    obtain ⟨rfl, N288q, K288, F288_0, F288_1⟩ := hQ288
    have N288 := Fr.app N284 N288q
    obtain ⟨h288, e288⟩ : ∃ z, z = T288.heap := ⟨_, rfl⟩
    have e288' := e288.symm
    rw [← e288] at K288 F288_0 F288_1
    have zs289 := Nat.le_trans zs287 K288.1
    have od289 := od287.keep K288 (allS g_b286 all0)
    refine own_go ?_ (fun tq kt => st288.trans kt)
    show own_Fin _ _ _ _ (T288.setTop (mkF m 44 #[.val (.int p1), .val (.int p2), .val (.int p3), .val (.int p4), .val (.int (1 : Int32)), .val (.ref x280), .val (.ref b282), .unset, .unset, .unset, .unset, .unset] [(.ref b286)]))
    refine own_go ?_ (fun tq kt => XS.astore X288.here hx rfl (hb hby at_44) rfl rfl (l' := #[.val (.int p1), .val (.int p2), .val (.int p3), .val (.int p4), .val (.int (1 : Int32)), .val (.ref x280), .val (.ref b282), .val (.ref b286), .unset, .unset, .unset, .unset]) rfl kt)
    show own_Fin _ _ _ _ (T288.setTop (mkF m 46 #[.val (.int p1), .val (.int p2), .val (.int p3), .val (.int p4), .val (.int (1 : Int32)), .val (.ref x280), .val (.ref b282), .val (.ref b286), .unset, .unset, .unset, .unset] []))
    refine own_go ?_ (fun tq kt => XS.iloadN X288.here hx rfl (hb hby at_46) rfl kt)
    show own_Fin _ _ _ _ (T288.setTop (mkF m 47 #[.val (.int p1), .val (.int p2), .val (.int p3), .val (.int p4), .val (.int (1 : Int32)), .val (.ref x280), .val (.ref b282), .val (.ref b286), .unset, .unset, .unset, .unset] [(.int p2)]))
    refine own_go ?_ (fun tq kt => XS.iconst X288.here hx rfl (hb hby at_47) kt)
    show own_Fin _ _ _ _ (T288.setTop (mkF m 48 #[.val (.int p1), .val (.int p2), .val (.int p3), .val (.int p4), .val (.int (1 : Int32)), .val (.ref x280), .val (.ref b282), .val (.ref b286), .unset, .unset, .unset, .unset] [(.int (1 : Int32)), (.int p2)]))
    refine own_go ?_ (fun tq kt => XS.iushr X288.here hx rfl (hb hby at_48) rfl kt)
    show own_Fin _ _ _ _ (T288.setTop (mkF m 49 #[.val (.int p1), .val (.int p2), .val (.int p3), .val (.int p4), .val (.int (1 : Int32)), .val (.ref x280), .val (.ref b282), .val (.ref b286), .unset, .unset, .unset, .unset] [(.int ((p2.toUInt32 >>> ((1 : Int32) &&& 31).toUInt32).toInt32))]))
    refine own_go ?_ (fun tq kt => XS.sipush X288.here hx rfl (hb hby at_49) kt)
    show own_Fin _ _ _ _ (T288.setTop (mkF m 52 #[.val (.int p1), .val (.int p2), .val (.int p3), .val (.int p4), .val (.int (1 : Int32)), .val (.ref x280), .val (.ref b282), .val (.ref b286), .unset, .unset, .unset, .unset] [(.int (255 : Int32)), (.int ((p2.toUInt32 >>> ((1 : Int32) &&& 31).toUInt32).toInt32))]))
    refine own_go ?_ (fun tq kt => XS.iand X288.here hx rfl (hb hby at_52) rfl kt)
    show own_Fin _ _ _ _ (T288.setTop (mkF m 53 #[.val (.int p1), .val (.int p2), .val (.int p3), .val (.int p4), .val (.int (1 : Int32)), .val (.ref x280), .val (.ref b282), .val (.ref b286), .unset, .unset, .unset, .unset] [(.int (((p2.toUInt32 >>> ((1 : Int32) &&& 31).toUInt32).toInt32) &&& (255 : Int32)))]))
    refine own_go ?_ (fun tq kt => XS.i2c X288.here hx rfl (hb hby at_53) rfl kt)
    show own_Fin _ _ _ _ (T288.setTop (mkF m 54 #[.val (.int p1), .val (.int p2), .val (.int p3), .val (.int p4), .val (.int (1 : Int32)), .val (.ref x280), .val (.ref b282), .val (.ref b286), .unset, .unset, .unset, .unset] [(.int ((((p2.toUInt32 >>> ((1 : Int32) &&& 31).toUInt32).toInt32) &&& (255 : Int32)).toUInt32.toUInt16.toUInt32.toInt32))]))
    obtain ⟨_, _, ⟨T290, L290, k290, n290⟩, -, X290, ⟨Lc290, hQ290, l290, y290, z290⟩, st290⟩ := Jvm.LawKit.callS X288 hx (y := (⟨"java/lang/String", "valueOf", "(C)Ljava/lang/String;"⟩ : MethodName)) hown (mvT hZ (hw _ (List.mem_of_getElem? (i := 33) rfl))) (mvT hZ (hw _ (List.mem_of_getElem? (i := 34) rfl))) (mvT hZ (hw _ (List.mem_of_getElem? (i := 35) rfl))) (mvT hZ (hw _ (List.mem_of_getElem? (i := 36) rfl))) (by decide) (backOf (W := 0) (rm6 l Z a0 hw [] ((((p2.toUInt32 >>> ((1 : Int32) &&& 31).toUInt32).toInt32) &&& (255 : Int32)).toUInt32.toUInt16.toUInt32.toInt32) cs0 h288 n0 zs289 od289 SCS hcs (own_c255 _)) hZ (hw _ (List.mem_of_getElem? (i := 36) rfl)) (hw _ (List.mem_of_getElem? (i := 35) rfl)) (by decide) (by decide)) (g := (mkF m 54 #[.val (.int p1), .val (.int p2), .val (.int p3), .val (.int p4), .val (.int (1 : Int32)), .val (.ref x280), .val (.ref b282), .val (.ref b286), .unset, .unset, .unset, .unset] [(.int ((((p2.toUInt32 >>> ((1 : Int32) &&& 31).toUInt32).toInt32) &&& (255 : Int32)).toUInt32.toUInt16.toUInt32.toInt32))])) rfl (by rw [hml]; rfl) (argsL := [(.int ((((p2.toUInt32 >>> ((1 : Int32) &&& 31).toUInt32).toInt32) &&& (255 : Int32)).toUInt32.toUInt16.toUInt32.toInt32))]) (rest := []) (lenOf own_pd11 rfl) rfl (by show 2 * 0 + _ ≤ _; exact Nat.le_of_eq rfl) (hb hby at_54) (fun _ _ => ⟨rfl, e288', (by decide : 3 + 2 ≤ _), (by decide : 7 + 5 ≤ _)⟩)
    dsimp only [Pt.U, Pt.locs, Pt.cells, Pt.slots] at X290 l290 y290 z290 st290 hQ290
    subst l290 y290 z290
    obtain ⟨x290, t290, k290, rfl, N290q, E290, lo290, lt290, Ex290, Fc290, Fv290, V290⟩ := hQ290
    have N290 := Fr.app N288 N290q
    obtain ⟨h290, e290⟩ : ∃ z, z = T290.heap := ⟨_, rfl⟩
    have e290' := e290.symm
    rw [← e290] at E290 Ex290 Fc290 Fv290 V290
    have zs291 := Nat.le_trans zs289 E290.1
    have od291 := od289.ext E290
    have g_x290 : n0 ≤ x290 := Nat.le_trans zs289 lo290
    have ne_oe_x290 : oe ≠ x290 := od291.ne (EEM).lt g_x290
    have ne_x280_x290 : x280 ≠ x290 := Nat.ne_of_lt (Nat.lt_of_lt_of_le (((((Ex280.ext E282).keep K284).ext E286).keep K288)).lt lo290)
    have ne_b282_x290 : b282 ≠ x290 := Nat.ne_of_lt (Nat.lt_of_lt_of_le ((((A282.keep K284).ext E286).keep K288)).lt lo290)
    have ne_b286_x290 : b286 ≠ x290 := Nat.ne_of_lt (Nat.lt_of_lt_of_le ((A286.keep K288)).lt lo290)
    have g_t290 : n0 ≤ t290 := Nat.le_trans zs289 lt290
    have ne_oe_t290 : oe ≠ t290 := od291.ne (EEM).lt g_t290
    have ne_x280_t290 : x280 ≠ t290 := Nat.ne_of_lt (Nat.lt_of_lt_of_le (((((Ex280.ext E282).keep K284).ext E286).keep K288)).lt lt290)
    have ne_b282_t290 : b282 ≠ t290 := Nat.ne_of_lt (Nat.lt_of_lt_of_le ((((A282.keep K284).ext E286).keep K288)).lt lt290)
    have ne_b286_t290 : b286 ≠ t290 := Nat.ne_of_lt (Nat.lt_of_lt_of_le ((A286.keep K288)).lt lt290)
    refine own_go ?_ (fun tq kt => st290 _ kt)
    show own_Fin _ _ _ _ (T290.setTop (mkF m 57 #[.val (.int p1), .val (.int p2), .val (.int p3), .val (.int p4), .val (.int (1 : Int32)), .val (.ref x280), .val (.ref b282), .val (.ref b286), .unset, .unset, .unset, .unset] [(.ref x290)]))
    refine own_go ?_ (fun tq kt => XS.astore X290.here hx rfl (hb hby at_57) rfl rfl (l' := #[.val (.int p1), .val (.int p2), .val (.int p3), .val (.int p4), .val (.int (1 : Int32)), .val (.ref x280), .val (.ref b282), .val (.ref b286), .val (.ref x290), .unset, .unset, .unset]) rfl kt)
    show own_Fin _ _ _ _ (T290.setTop (mkF m 59 #[.val (.int p1), .val (.int p2), .val (.int p3), .val (.int p4), .val (.int (1 : Int32)), .val (.ref x280), .val (.ref b282), .val (.ref b286), .val (.ref x290), .unset, .unset, .unset] []))
    refine own_go ?_ (fun tq kt => XS.iloadN X290.here hx rfl (hb hby at_59) rfl kt)
    show own_Fin _ _ _ _ (T290.setTop (mkF m 60 #[.val (.int p1), .val (.int p2), .val (.int p3), .val (.int p4), .val (.int (1 : Int32)), .val (.ref x280), .val (.ref b282), .val (.ref b286), .val (.ref x290), .unset, .unset, .unset] [(.int p2)]))
    refine own_go ?_ (fun tq kt => XS.sipush X290.here hx rfl (hb hby at_60) kt)
    show own_Fin _ _ _ _ (T290.setTop (mkF m 63 #[.val (.int p1), .val (.int p2), .val (.int p3), .val (.int p4), .val (.int (1 : Int32)), .val (.ref x280), .val (.ref b282), .val (.ref b286), .val (.ref x290), .unset, .unset, .unset] [(.int (512 : Int32)), (.int p2)]))
    refine own_go ?_ (fun tq kt => XS.iand X290.here hx rfl (hb hby at_63) rfl kt)
    show own_Fin _ _ _ _ (T290.setTop (mkF m 64 #[.val (.int p1), .val (.int p2), .val (.int p3), .val (.int p4), .val (.int (1 : Int32)), .val (.ref x280), .val (.ref b282), .val (.ref b286), .val (.ref x290), .unset, .unset, .unset] [(.int (p2 &&& (512 : Int32)))]))
    by_cases hc64_292 : (p2 &&& (512 : Int32)) = (0 : Int32)
    · refine own_go ?_ (fun tq kt => XS.ifYes X290.here hx rfl (pc0 := 64) (pc' := 71) rfl (hb hby at_64) rfl ((if0 _ _).trans (teq (hc64_292 : (p2 &&& (512 : Int32)) = (0 : Int32))).1) (by decide) (by decide) kt)
      show own_Fin _ _ _ _ (T290.setTop (mkF m 71 #[.val (.int p1), .val (.int p2), .val (.int p3), .val (.int p4), .val (.int (1 : Int32)), .val (.ref x280), .val (.ref b282), .val (.ref b286), .val (.ref x290), .unset, .unset, .unset] []))
      refine own_go ?_ (fun tq kt => XS.iconst X290.here hx rfl (hb hby at_71) kt)
      show own_Fin _ _ _ _ (T290.setTop (mkF m 72 #[.val (.int p1), .val (.int p2), .val (.int p3), .val (.int p4), .val (.int (1 : Int32)), .val (.ref x280), .val (.ref b282), .val (.ref b286), .val (.ref x290), .unset, .unset, .unset] [(.int (0 : Int32))]))
      refine own_go ?_ (fun tq kt => XS.istore X290.here hx rfl (hb hby at_72) rfl (l' := #[.val (.int p1), .val (.int p2), .val (.int p3), .val (.int p4), .val (.int (1 : Int32)), .val (.ref x280), .val (.ref b282), .val (.ref b286), .val (.ref x290), .val (.int (0 : Int32)), .unset, .unset]) rfl kt)
      show own_Fin _ _ _ _ (T290.setTop (mkF m 74 #[.val (.int p1), .val (.int p2), .val (.int p3), .val (.int p4), .val (.int (1 : Int32)), .val (.ref x280), .val (.ref b282), .val (.ref b286), .val (.ref x290), .val (.int (0 : Int32)), .unset, .unset] []))
      obtain ⟨T293, h293, X293, e293, E293, A293, D293, -, st293⟩ := newO X290 hx hZ hown (hw _ (List.mem_of_getElem? (i := 57) rfl)) (hw _ (List.mem_of_getElem? (i := 58) rfl)) (hw _ (List.mem_of_getElem? (i := 59) rfl)) e290' (g := (mkF m 74 #[.val (.int p1), .val (.int p2), .val (.int p3), .val (.int p4), .val (.int (1 : Int32)), .val (.ref x280), .val (.ref b282), .val (.ref b286), .val (.ref x290), .val (.int (0 : Int32)), .unset, .unset] [])) rfl (hb hby at_74) (by decide) (by decide)
      obtain ⟨b293, g293⟩ : ∃ z, z = h290.size := ⟨_, rfl⟩
      rw [← g293] at A293 D293 st293
      have zs294 := Nat.le_trans zs291 E293.1
      have od294 := od291.ext E293
      have g_b293 : n0 ≤ b293 := Nat.le_trans zs291 (Nat.le_of_eq g293.symm)
      have ne_oe_b293 : oe ≠ b293 := od294.ne (EEM).lt g_b293
      have ne_x280_b293 : x280 ≠ b293 := Nat.ne_of_lt (Nat.lt_of_lt_of_le ((((((Ex280.ext E282).keep K284).ext E286).keep K288).ext E290)).lt (Nat.le_of_eq g293.symm))
      have ne_b282_b293 : b282 ≠ b293 := Nat.ne_of_lt (Nat.lt_of_lt_of_le (((((A282.keep K284).ext E286).keep K288).ext E290)).lt (Nat.le_of_eq g293.symm))
      have ne_b286_b293 : b286 ≠ b293 := Nat.ne_of_lt (Nat.lt_of_lt_of_le (((A286.keep K288).ext E290)).lt (Nat.le_of_eq g293.symm))
      have ne_x290_b293 : x290 ≠ b293 := Nat.ne_of_lt (Nat.lt_of_lt_of_le (Ex290).lt (Nat.le_of_eq g293.symm))
      have ne_t290_b293 : t290 ≠ b293 := Nat.ne_of_lt (Nat.lt_of_lt_of_le (V290).lt (Nat.le_of_eq g293.symm))
      have F293_number : Fld Z h293 b293 "com/example/conformance_check/conformancecheck/document/RationaleRow" "number" "Ljava/lang/Integer;" .null := D293 (Or.inr (hw _ (List.mem_of_getElem? (i := 65) rfl))) (ty := (.object "java/lang/Integer")) (by decide)
      have F293_index : Fld Z h293 b293 "com/example/conformance_check/conformancecheck/document/RationaleRow" "index" "I" (.int (0 : Int32)) := D293 (Or.inr (hw _ (List.mem_of_getElem? (i := 67) rfl))) (ty := .int) (by decide)
      have F293_line : Fld Z h293 b293 "com/example/conformance_check/conformancecheck/document/RationaleRow" "line" "I" (.int (0 : Int32)) := D293 (Or.inr (hw _ (List.mem_of_getElem? (i := 69) rfl))) (ty := .int) (by decide)
      have F293_component : Fld Z h293 b293 "com/example/conformance_check/conformancecheck/document/RationaleRow" "component" "Ljava/lang/String;" .null := D293 (Or.inr (hw _ (List.mem_of_getElem? (i := 71) rfl))) (ty := (.object "java/lang/String")) (by decide)
      have F293_named : Fld Z h293 b293 "com/example/conformance_check/conformancecheck/document/RationaleRow" "named" "Ljava/util/List;" .null := D293 (Or.inr (hw _ (List.mem_of_getElem? (i := 116) rfl))) (ty := (.object "java/util/List")) (by decide)
      have F293_dependencies : Fld Z h293 b293 "com/example/conformance_check/conformancecheck/document/RationaleRow" "dependencies" "Ljava/util/List;" .null := D293 (Or.inr (hw _ (List.mem_of_getElem? (i := 118) rfl))) (ty := (.object "java/util/List")) (by decide)
      have F293_givesReferences : Fld Z h293 b293 "com/example/conformance_check/conformancecheck/document/RationaleRow" "givesReferences" "Z" (.int (0 : Int32)) := D293 (Or.inr (hw _ (List.mem_of_getElem? (i := 120) rfl))) (ty := .boolean) (by decide)
      refine own_go ?_ (fun tq kt => st293 _ kt)
      show own_Fin _ _ _ _ (T293.setTop (mkF m 77 #[.val (.int p1), .val (.int p2), .val (.int p3), .val (.int p4), .val (.int (1 : Int32)), .val (.ref x280), .val (.ref b282), .val (.ref b286), .val (.ref x290), .val (.int (0 : Int32)), .unset, .unset] [(.ref b293)]))
      refine own_go ?_ (fun tq kt => XS.dup X293.here hx rfl (hb hby at_77) rfl rfl kt)
      show own_Fin _ _ _ _ (T293.setTop (mkF m 78 #[.val (.int p1), .val (.int p2), .val (.int p3), .val (.int p4), .val (.int (1 : Int32)), .val (.ref x280), .val (.ref b282), .val (.ref b286), .val (.ref x290), .val (.int (0 : Int32)), .unset, .unset] [(.ref b293), (.ref b293)]))
      refine own_go ?_ (fun tq kt => XS.aload X293.here hx rfl (hb hby at_78) rfl rfl kt)
      show own_Fin _ _ _ _ (T293.setTop (mkF m 80 #[.val (.int p1), .val (.int p2), .val (.int p3), .val (.int p4), .val (.int (1 : Int32)), .val (.ref x280), .val (.ref b282), .val (.ref b286), .val (.ref x290), .val (.int (0 : Int32)), .unset, .unset] [(.ref x280), (.ref b293), (.ref b293)]))
      refine own_go ?_ (fun tq kt => XS.iloadN X293.here hx rfl (hb hby at_80) rfl kt)
      show own_Fin _ _ _ _ (T293.setTop (mkF m 81 #[.val (.int p1), .val (.int p2), .val (.int p3), .val (.int p4), .val (.int (1 : Int32)), .val (.ref x280), .val (.ref b282), .val (.ref b286), .val (.ref x290), .val (.int (0 : Int32)), .unset, .unset] [(.int p3), (.ref x280), (.ref b293), (.ref b293)]))
      refine own_go ?_ (fun tq kt => XS.iloadN X293.here hx rfl (hb hby at_81) rfl kt)
      show own_Fin _ _ _ _ (T293.setTop (mkF m 82 #[.val (.int p1), .val (.int p2), .val (.int p3), .val (.int p4), .val (.int (1 : Int32)), .val (.ref x280), .val (.ref b282), .val (.ref b286), .val (.ref x290), .val (.int (0 : Int32)), .unset, .unset] [(.int p4), (.int p3), (.ref x280), (.ref b293), (.ref b293)]))
      refine own_go ?_ (fun tq kt => XS.aload X293.here hx rfl (hb hby at_82) rfl rfl kt)
      show own_Fin _ _ _ _ (T293.setTop (mkF m 84 #[.val (.int p1), .val (.int p2), .val (.int p3), .val (.int p4), .val (.int (1 : Int32)), .val (.ref x280), .val (.ref b282), .val (.ref b286), .val (.ref x290), .val (.int (0 : Int32)), .unset, .unset] [(.ref x290), (.int p4), (.int p3), (.ref x280), (.ref b293), (.ref b293)]))
      refine own_go ?_ (fun tq kt => XS.aload X293.here hx rfl (hb hby at_84) rfl rfl kt)
      show own_Fin _ _ _ _ (T293.setTop (mkF m 86 #[.val (.int p1), .val (.int p2), .val (.int p3), .val (.int p4), .val (.int (1 : Int32)), .val (.ref x280), .val (.ref b282), .val (.ref b286), .val (.ref x290), .val (.int (0 : Int32)), .unset, .unset] [(.ref b282), (.ref x290), (.int p4), (.int p3), (.ref x280), (.ref b293), (.ref b293)]))
      refine own_go ?_ (fun tq kt => XS.aload X293.here hx rfl (hb hby at_86) rfl rfl kt)
      show own_Fin _ _ _ _ (T293.setTop (mkF m 88 #[.val (.int p1), .val (.int p2), .val (.int p3), .val (.int p4), .val (.int (1 : Int32)), .val (.ref x280), .val (.ref b282), .val (.ref b286), .val (.ref x290), .val (.int (0 : Int32)), .unset, .unset] [(.ref b286), (.ref b282), (.ref x290), (.int p4), (.int p3), (.ref x280), (.ref b293), (.ref b293)]))
      refine own_go ?_ (fun tq kt => XS.iload X293.here hx rfl (hb hby at_88) rfl kt)
      show own_Fin _ _ _ _ (T293.setTop (mkF m 90 #[.val (.int p1), .val (.int p2), .val (.int p3), .val (.int p4), .val (.int (1 : Int32)), .val (.ref x280), .val (.ref b282), .val (.ref b286), .val (.ref x290), .val (.int (0 : Int32)), .unset, .unset] [(.int (0 : Int32)), (.ref b286), (.ref b282), (.ref x290), (.int p4), (.int p3), (.ref x280), (.ref b293), (.ref b293)]))
      obtain ⟨_, _, ⟨T295, L295, k295, n295⟩, -, X295, ⟨Lc295, hQ295, l295, y295, z295⟩, st295⟩ := X293.specialBack hx (y := (⟨"com/example/conformance_check/conformancecheck/document/RationaleRow", "<init>", "(Ljava/lang/Integer;IILjava/lang/String;Ljava/util/List;Ljava/util/List;Z)V"⟩ : MethodName)) rfl hown (mvT hZ (hw _ (List.mem_of_getElem? (i := 60) rfl))) (mvT hZ (hw _ (List.mem_of_getElem? (i := 61) rfl))) (mvT hZ (hw _ (List.mem_of_getElem? (i := 62) rfl))) (by decide) (backOf (W := 1) (rm10 l Z a0 hw [] b293 (.ref x280) p3 p4 x290 b282 b286 (0 : Int32) mA mL mR h293 n0 zs294  A293 F293_number F293_index F293_line F293_component F293_named F293_dependencies F293_givesReferences g_b293 rfl (((((A282.keep K284).ext E286).keep K288).ext E290).ext E293) (((A286.keep K288).ext E290).ext E293) MA ML MR) hZ (hw _ (List.mem_of_getElem? (i := 62) rfl)) (hw _ (List.mem_of_getElem? (i := 59) rfl)) (by decide) (by decide)) (g := (mkF m 90 #[.val (.int p1), .val (.int p2), .val (.int p3), .val (.int p4), .val (.int (1 : Int32)), .val (.ref x280), .val (.ref b282), .val (.ref b286), .val (.ref x290), .val (.int (0 : Int32)), .unset, .unset] [(.int (0 : Int32)), (.ref b286), (.ref b282), (.ref x290), (.int p4), (.int p3), (.ref x280), (.ref b293), (.ref b293)])) rfl (by rw [hml]; rfl) (Steps.refl _) (a := b293) (argsL := [(.ref x280), (.int p3), (.int p4), (.ref x290), (.ref b282), (.ref b286), (.int (0 : Int32))]) (rest := [(.ref b293)]) (lenOf own_pd12 rfl) rfl (by show 2 * 0 + _ ≤ _; exact Nat.le_of_eq rfl) (hb hby at_90) (fun _ _ => ⟨rfl, e293, (by decide : 6 + 2 ≤ _), (by decide : 19 + 4 ≤ _)⟩)
      dsimp only [Pt.U, Pt.locs, Pt.cells, Pt.slots] at X295 l295 y295 z295 st295 hQ295
      subst l295 y295 z295
      obtain ⟨rfl, N295q, K295, F295_0, F295_1, F295_2, F295_3, F295_4⟩ := hQ295
      have N295 := Fr.app N290 N295q
      obtain ⟨h295, e295⟩ : ∃ z, z = T295.heap := ⟨_, rfl⟩
      have e295' := e295.symm
      rw [← e295] at K295 F295_0 F295_1 F295_2 F295_3 F295_4
      have zs296 := Nat.le_trans zs294 K295.1
      have od296 := od294.keep K295 (allS g_b293 all0)
      refine own_go ?_ (fun tq kt => st295.trans kt)
      show own_Fin _ _ _ _ (T295.setTop (mkF m 93 #[.val (.int p1), .val (.int p2), .val (.int p3), .val (.int p4), .val (.int (1 : Int32)), .val (.ref x280), .val (.ref b282), .val (.ref b286), .val (.ref x290), .val (.int (0 : Int32)), .unset, .unset] [(.ref b293)]))
      refine own_go ?_ (fun tq kt => XS.astore X295.here hx rfl (hb hby at_93) rfl rfl (l' := #[.val (.int p1), .val (.int p2), .val (.int p3), .val (.int p4), .val (.int (1 : Int32)), .val (.ref x280), .val (.ref b282), .val (.ref b286), .val (.ref x290), .val (.int (0 : Int32)), .val (.ref b293), .unset]) rfl kt)
      show own_Fin _ _ _ _ (T295.setTop (mkF m 95 #[.val (.int p1), .val (.int p2), .val (.int p3), .val (.int p4), .val (.int (1 : Int32)), .val (.ref x280), .val (.ref b282), .val (.ref b286), .val (.ref x290), .val (.int (0 : Int32)), .val (.ref b293), .unset] []))
      refine own_go ?_ (fun tq kt => XS.aload X295.here hx rfl (hb hby at_95) rfl rfl kt)
      show own_Fin _ _ _ _ (T295.setTop (mkF m 97 #[.val (.int p1), .val (.int p2), .val (.int p3), .val (.int p4), .val (.int (1 : Int32)), .val (.ref x280), .val (.ref b282), .val (.ref b286), .val (.ref x290), .val (.int (0 : Int32)), .val (.ref b293), .unset] [(.ref b293)]))
      obtain ⟨cq297, kq297, q297a, q297b, q297c⟩ := isOf hZ e295' (A293.keep K295)
      obtain ⟨_, _, ⟨T297, L297, k297, n297⟩, -, X297, ⟨Lc297, hQ297, l297, y297, z297⟩, st297⟩ := X295.virtualBack hx (y := (⟨"com/example/conformance_check/conformancecheck/document/RationaleRow", "number", "()Ljava/util/OptionalInt;"⟩ : MethodName)) (z := (⟨"com/example/conformance_check/conformancecheck/document/RationaleRow", "number", "()Ljava/util/OptionalInt;"⟩ : MethodName)) hown (mvT hZ (hw _ (List.mem_of_getElem? (i := 121) rfl))) (mvT hZ (hw _ (List.mem_of_getElem? (i := 122) rfl))) (notFace_of_selects (args := #[]) (mvT hZ (hw _ (List.mem_of_getElem? (i := 124) rfl)))) (mvT hZ (hw _ (List.mem_of_getElem? (i := 124) rfl))) (mvT hZ (hw _ (List.mem_of_getElem? (i := 123) rfl))) (by decide) (backOf (W := 0) (rm15s l Z a0 hw [] b293 x280 p1 h295 n0 zs296 F295_0 (((((((Ex280.ext E282).keep K284).ext E286).keep K288).ext E290).ext E293).keep K295) (((((((Fv280.ext E282).keep K284 (ninS ne_x280_b282 nin0)).ext E286).keep K288 (ninS ne_x280_b286 nin0)).ext E290).ext E293).keep K295 (ninS ne_x280_b293 nin0))) hZ (hw _ (List.mem_of_getElem? (i := 125) rfl)) (hw _ (List.mem_of_getElem? (i := 59) rfl)) (by decide) (by decide)) q297a q297c (g := (mkF m 97 #[.val (.int p1), .val (.int p2), .val (.int p3), .val (.int p4), .val (.int (1 : Int32)), .val (.ref x280), .val (.ref b282), .val (.ref b286), .val (.ref x290), .val (.int (0 : Int32)), .val (.ref b293), .unset] [(.ref b293)])) rfl (by rw [hml]; rfl) (Steps.refl _) (argsL := []) (rest := []) (lenOf own_pd8 rfl) rfl (by show 2 * 0 + _ ≤ _; exact Nat.le_of_eq rfl) (hb hby at_97) (fun _ _ => ⟨rfl, e295', (by decide : 8 + 1 ≤ _), (by decide : 23 + 2 ≤ _)⟩)
      dsimp only [Pt.U, Pt.locs, Pt.cells, Pt.slots] at X297 l297 y297 z297 st297 hQ297
      subst l297 y297 z297
      obtain ⟨x297, rfl, N297q, E297, Ex297, Fp297, Fv297⟩ := hQ297
      have N297 := Fr.app N295 N297q
      obtain ⟨h297, e297⟩ : ∃ z, z = T297.heap := ⟨_, rfl⟩
      have e297' := e297.symm
      rw [← e297] at E297 Ex297 Fp297 Fv297
      have zs298 := Nat.le_trans zs296 E297.1
      have od298 := od296.ext E297
      refine own_go ?_ (fun tq kt => st297.trans kt)
      show own_Fin _ _ _ _ (T297.setTop (mkF m 100 #[.val (.int p1), .val (.int p2), .val (.int p3), .val (.int p4), .val (.int (1 : Int32)), .val (.ref x280), .val (.ref b282), .val (.ref b286), .val (.ref x290), .val (.int (0 : Int32)), .val (.ref b293), .unset] [(.ref x297)]))
      refine own_go ?_ (fun tq kt => XS.astore X297.here hx rfl (hb hby at_100) rfl rfl (l' := #[.val (.int p1), .val (.int p2), .val (.int p3), .val (.int p4), .val (.int (1 : Int32)), .val (.ref x280), .val (.ref b282), .val (.ref b286), .val (.ref x290), .val (.int (0 : Int32)), .val (.ref b293), .val (.ref x297)]) rfl kt)
      show own_Fin _ _ _ _ (T297.setTop (mkF m 102 #[.val (.int p1), .val (.int p2), .val (.int p3), .val (.int p4), .val (.int (1 : Int32)), .val (.ref x280), .val (.ref b282), .val (.ref b286), .val (.ref x290), .val (.int (0 : Int32)), .val (.ref b293), .val (.ref x297)] []))
      refine own_go ?_ (fun tq kt => XS.iload X297.here hx rfl (hb hby at_102) rfl kt)
      show own_Fin _ _ _ _ (T297.setTop (mkF m 104 #[.val (.int p1), .val (.int p2), .val (.int p3), .val (.int p4), .val (.int (1 : Int32)), .val (.ref x280), .val (.ref b282), .val (.ref b286), .val (.ref x290), .val (.int (0 : Int32)), .val (.ref b293), .val (.ref x297)] [(.int (1 : Int32))]))
      refine own_go ?_ (fun tq kt => XS.ifYes X297.here hx rfl (pc0 := 104) (pc' := 121) rfl (hb hby at_104) rfl ((if0 _ _).trans (feq ((by decide) : ¬ ((1 : Int32) = (0 : Int32)))).2) (by decide) (by decide) kt)
      show own_Fin _ _ _ _ (T297.setTop (mkF m 121 #[.val (.int p1), .val (.int p2), .val (.int p3), .val (.int p4), .val (.int (1 : Int32)), .val (.ref x280), .val (.ref b282), .val (.ref b286), .val (.ref x290), .val (.int (0 : Int32)), .val (.ref b293), .val (.ref x297)] []))
      refine own_go ?_ (fun tq kt => XS.aload X297.here hx rfl (hb hby at_121) rfl rfl kt)
      show own_Fin _ _ _ _ (T297.setTop (mkF m 123 #[.val (.int p1), .val (.int p2), .val (.int p3), .val (.int p4), .val (.int (1 : Int32)), .val (.ref x280), .val (.ref b282), .val (.ref b286), .val (.ref x290), .val (.int (0 : Int32)), .val (.ref b293), .val (.ref x297)] [(.ref x297)]))
      obtain ⟨cq299, kq299, q299a, q299b, q299c⟩ := isOf hZ e297' Ex297
      obtain ⟨_, _, ⟨T299, L299, k299, n299⟩, -, X299, ⟨Lc299, hQ299, l299, y299, z299⟩, st299⟩ := X297.virtualBack hx (y := (⟨"java/util/OptionalInt", "isPresent", "()Z"⟩ : MethodName)) (z := (⟨"java/util/OptionalInt", "isPresent", "()Z"⟩ : MethodName)) hown (mvT hZ (hw _ (List.mem_of_getElem? (i := 148) rfl))) (mvT hZ (hw _ (List.mem_of_getElem? (i := 149) rfl))) (notFace_of_selects (args := #[]) (mvT hZ (hw _ (List.mem_of_getElem? (i := 151) rfl)))) (mvT hZ (hw _ (List.mem_of_getElem? (i := 151) rfl))) (mvT hZ (hw _ (List.mem_of_getElem? (i := 150) rfl))) (by decide) (backOf (W := 0) (rm19 l Z a0 hw [] x297 (1 : Int32) h297 n0 zs298 Fp297 rfl) hZ (hw _ (List.mem_of_getElem? (i := 152) rfl)) (hw _ (List.mem_of_getElem? (i := 135) rfl)) (by decide) (by decide)) q299a q299c (g := (mkF m 123 #[.val (.int p1), .val (.int p2), .val (.int p3), .val (.int p4), .val (.int (1 : Int32)), .val (.ref x280), .val (.ref b282), .val (.ref b286), .val (.ref x290), .val (.int (0 : Int32)), .val (.ref b293), .val (.ref x297)] [(.ref x297)])) rfl (by rw [hml]; rfl) (Steps.refl _) (argsL := []) (rest := []) (lenOf own_pd13 rfl) rfl (by show 2 * 0 + _ ≤ _; exact Nat.le_of_eq rfl) (hb hby at_123) (fun _ _ => ⟨rfl, e297', (by decide : 9 + 0 ≤ _), (by decide : 25 + 0 ≤ _)⟩)
      dsimp only [Pt.U, Pt.locs, Pt.cells, Pt.slots] at X299 l299 y299 z299 st299 hQ299
      subst l299 y299 z299
      obtain ⟨rfl, N299q, e299⟩ := hQ299
      have N299 := Fr.app N297 N299q
      refine own_go ?_ (fun tq kt => st299.trans kt)
      show own_Fin _ _ _ _ (T299.setTop (mkF m 126 #[.val (.int p1), .val (.int p2), .val (.int p3), .val (.int p4), .val (.int (1 : Int32)), .val (.ref x280), .val (.ref b282), .val (.ref b286), .val (.ref x290), .val (.int (0 : Int32)), .val (.ref b293), .val (.ref x297)] [(.int (1 : Int32))]))
      refine own_go ?_ (fun tq kt => XS.ifNo X299.here hx rfl (hb hby at_126) rfl ((if0 _ _).trans (feq ((by decide) : ¬ ((1 : Int32) = (0 : Int32)))).1) kt)
      show own_Fin _ _ _ _ (T299.setTop (mkF m 129 #[.val (.int p1), .val (.int p2), .val (.int p3), .val (.int p4), .val (.int (1 : Int32)), .val (.ref x280), .val (.ref b282), .val (.ref b286), .val (.ref x290), .val (.int (0 : Int32)), .val (.ref b293), .val (.ref x297)] []))
      refine own_go ?_ (fun tq kt => XS.aload X299.here hx rfl (hb hby at_129) rfl rfl kt)
      show own_Fin _ _ _ _ (T299.setTop (mkF m 131 #[.val (.int p1), .val (.int p2), .val (.int p3), .val (.int p4), .val (.int (1 : Int32)), .val (.ref x280), .val (.ref b282), .val (.ref b286), .val (.ref x290), .val (.int (0 : Int32)), .val (.ref b293), .val (.ref x297)] [(.ref x297)]))
      obtain ⟨cq300, kq300, q300a, q300b, q300c⟩ := isOf hZ e299 Ex297
      obtain ⟨_, _, ⟨T300, L300, k300, n300⟩, -, X300, ⟨Lc300, hQ300, l300, y300, z300⟩, st300⟩ := X299.virtualBack hx (y := (⟨"java/util/OptionalInt", "getAsInt", "()I"⟩ : MethodName)) (z := (⟨"java/util/OptionalInt", "getAsInt", "()I"⟩ : MethodName)) hown (mvT hZ (hw _ (List.mem_of_getElem? (i := 153) rfl))) (mvT hZ (hw _ (List.mem_of_getElem? (i := 154) rfl))) (notFace_of_selects (args := #[]) (mvT hZ (hw _ (List.mem_of_getElem? (i := 156) rfl)))) (mvT hZ (hw _ (List.mem_of_getElem? (i := 156) rfl))) (mvT hZ (hw _ (List.mem_of_getElem? (i := 155) rfl))) (by decide) (backOf (W := 0) (rm20 l Z a0 hw [] x297 (1 : Int32) p1 h297 n0 zs298 Fp297 Fv297 (by decide)) hZ (hw _ (List.mem_of_getElem? (i := 157) rfl)) (hw _ (List.mem_of_getElem? (i := 135) rfl)) (by decide) (by decide)) q300a q300c (g := (mkF m 131 #[.val (.int p1), .val (.int p2), .val (.int p3), .val (.int p4), .val (.int (1 : Int32)), .val (.ref x280), .val (.ref b282), .val (.ref b286), .val (.ref x290), .val (.int (0 : Int32)), .val (.ref b293), .val (.ref x297)] [(.ref x297)])) rfl (by rw [hml]; rfl) (Steps.refl _) (argsL := []) (rest := []) (lenOf own_pd9 rfl) rfl (by show 2 * 0 + _ ≤ _; exact Nat.le_of_eq rfl) (hb hby at_131) (fun _ _ => ⟨rfl, e299, (by decide : 9 + 0 ≤ _), (by decide : 25 + 0 ≤ _)⟩)
      dsimp only [Pt.U, Pt.locs, Pt.cells, Pt.slots] at X300 l300 y300 z300 st300 hQ300
      subst l300 y300 z300
      obtain ⟨rfl, N300q, e300⟩ := hQ300
      have N300 := Fr.app N299 N300q
      refine own_go ?_ (fun tq kt => st300.trans kt)
      show own_Fin _ _ _ _ (T300.setTop (mkF m 134 #[.val (.int p1), .val (.int p2), .val (.int p3), .val (.int p4), .val (.int (1 : Int32)), .val (.ref x280), .val (.ref b282), .val (.ref b286), .val (.ref x290), .val (.int (0 : Int32)), .val (.ref b293), .val (.ref x297)] [(.int p1)]))
      refine own_go ?_ (fun tq kt => XS.iloadN X300.here hx rfl (hb hby at_134) rfl kt)
      show own_Fin _ _ _ _ (T300.setTop (mkF m 135 #[.val (.int p1), .val (.int p2), .val (.int p3), .val (.int p4), .val (.int (1 : Int32)), .val (.ref x280), .val (.ref b282), .val (.ref b286), .val (.ref x290), .val (.int (0 : Int32)), .val (.ref b293), .val (.ref x297)] [(.int p1), (.int p1)]))
      refine own_go ?_ (fun tq kt => XS.icmpNo X300.here hx rfl (hb hby at_135) rfl (teq (rfl : p1 = p1)).2 kt)
      show own_Fin _ _ _ _ (T300.setTop (mkF m 138 #[.val (.int p1), .val (.int p2), .val (.int p3), .val (.int p4), .val (.int (1 : Int32)), .val (.ref x280), .val (.ref b282), .val (.ref b286), .val (.ref x290), .val (.int (0 : Int32)), .val (.ref b293), .val (.ref x297)] []))
      refine own_go ?_ (fun tq kt => XS.iconst X300.here hx rfl (hb hby at_138) kt)
      show own_Fin _ _ _ _ (T300.setTop (mkF m 139 #[.val (.int p1), .val (.int p2), .val (.int p3), .val (.int p4), .val (.int (1 : Int32)), .val (.ref x280), .val (.ref b282), .val (.ref b286), .val (.ref x290), .val (.int (0 : Int32)), .val (.ref b293), .val (.ref x297)] [(.int (1 : Int32))]))
      refine own_go ?_ (fun tq kt => XS.goto X300.here hx rfl (pc0 := 139) (pc' := 143) rfl (hb hby at_139) (by decide) (by decide) kt)
      show own_Fin _ _ _ _ (T300.setTop (mkF m 143 #[.val (.int p1), .val (.int p2), .val (.int p3), .val (.int p4), .val (.int (1 : Int32)), .val (.ref x280), .val (.ref b282), .val (.ref b286), .val (.ref x290), .val (.int (0 : Int32)), .val (.ref b293), .val (.ref x297)] [(.int (1 : Int32))]))
      refine own_retN X300 hx (t := .boolean) Bd.returns (by simp) (hb hby at_143) hlk ?_ (by decide) (by decide)
      exact ⟨rfl, N300⟩
    · refine own_go ?_ (fun tq kt => XS.ifNo X290.here hx rfl (hb hby at_64) rfl ((if0 _ _).trans (feq (hc64_292 : ¬ ((p2 &&& (512 : Int32)) = (0 : Int32)))).1) kt)
      show own_Fin _ _ _ _ (T290.setTop (mkF m 67 #[.val (.int p1), .val (.int p2), .val (.int p3), .val (.int p4), .val (.int (1 : Int32)), .val (.ref x280), .val (.ref b282), .val (.ref b286), .val (.ref x290), .unset, .unset, .unset] []))
      refine own_go ?_ (fun tq kt => XS.iconst X290.here hx rfl (hb hby at_67) kt)
      show own_Fin _ _ _ _ (T290.setTop (mkF m 68 #[.val (.int p1), .val (.int p2), .val (.int p3), .val (.int p4), .val (.int (1 : Int32)), .val (.ref x280), .val (.ref b282), .val (.ref b286), .val (.ref x290), .unset, .unset, .unset] [(.int (1 : Int32))]))
      refine own_go ?_ (fun tq kt => XS.goto X290.here hx rfl (pc0 := 68) (pc' := 72) rfl (hb hby at_68) (by decide) (by decide) kt)
      show own_Fin _ _ _ _ (T290.setTop (mkF m 72 #[.val (.int p1), .val (.int p2), .val (.int p3), .val (.int p4), .val (.int (1 : Int32)), .val (.ref x280), .val (.ref b282), .val (.ref b286), .val (.ref x290), .unset, .unset, .unset] [(.int (1 : Int32))]))
      refine own_go ?_ (fun tq kt => XS.istore X290.here hx rfl (hb hby at_72) rfl (l' := #[.val (.int p1), .val (.int p2), .val (.int p3), .val (.int p4), .val (.int (1 : Int32)), .val (.ref x280), .val (.ref b282), .val (.ref b286), .val (.ref x290), .val (.int (1 : Int32)), .unset, .unset]) rfl kt)
      show own_Fin _ _ _ _ (T290.setTop (mkF m 74 #[.val (.int p1), .val (.int p2), .val (.int p3), .val (.int p4), .val (.int (1 : Int32)), .val (.ref x280), .val (.ref b282), .val (.ref b286), .val (.ref x290), .val (.int (1 : Int32)), .unset, .unset] []))
      obtain ⟨T301, h301, X301, e301, E301, A301, D301, -, st301⟩ := newO X290 hx hZ hown (hw _ (List.mem_of_getElem? (i := 57) rfl)) (hw _ (List.mem_of_getElem? (i := 58) rfl)) (hw _ (List.mem_of_getElem? (i := 59) rfl)) e290' (g := (mkF m 74 #[.val (.int p1), .val (.int p2), .val (.int p3), .val (.int p4), .val (.int (1 : Int32)), .val (.ref x280), .val (.ref b282), .val (.ref b286), .val (.ref x290), .val (.int (1 : Int32)), .unset, .unset] [])) rfl (hb hby at_74) (by decide) (by decide)
      obtain ⟨b301, g301⟩ : ∃ z, z = h290.size := ⟨_, rfl⟩
      rw [← g301] at A301 D301 st301
      have zs302 := Nat.le_trans zs291 E301.1
      have od302 := od291.ext E301
      have g_b301 : n0 ≤ b301 := Nat.le_trans zs291 (Nat.le_of_eq g301.symm)
      have ne_oe_b301 : oe ≠ b301 := od302.ne (EEM).lt g_b301
      have ne_x280_b301 : x280 ≠ b301 := Nat.ne_of_lt (Nat.lt_of_lt_of_le ((((((Ex280.ext E282).keep K284).ext E286).keep K288).ext E290)).lt (Nat.le_of_eq g301.symm))
      have ne_b282_b301 : b282 ≠ b301 := Nat.ne_of_lt (Nat.lt_of_lt_of_le (((((A282.keep K284).ext E286).keep K288).ext E290)).lt (Nat.le_of_eq g301.symm))
      have ne_b286_b301 : b286 ≠ b301 := Nat.ne_of_lt (Nat.lt_of_lt_of_le (((A286.keep K288).ext E290)).lt (Nat.le_of_eq g301.symm))
      have ne_x290_b301 : x290 ≠ b301 := Nat.ne_of_lt (Nat.lt_of_lt_of_le (Ex290).lt (Nat.le_of_eq g301.symm))
      have ne_t290_b301 : t290 ≠ b301 := Nat.ne_of_lt (Nat.lt_of_lt_of_le (V290).lt (Nat.le_of_eq g301.symm))
      have F301_number : Fld Z h301 b301 "com/example/conformance_check/conformancecheck/document/RationaleRow" "number" "Ljava/lang/Integer;" .null := D301 (Or.inr (hw _ (List.mem_of_getElem? (i := 65) rfl))) (ty := (.object "java/lang/Integer")) (by decide)
      have F301_index : Fld Z h301 b301 "com/example/conformance_check/conformancecheck/document/RationaleRow" "index" "I" (.int (0 : Int32)) := D301 (Or.inr (hw _ (List.mem_of_getElem? (i := 67) rfl))) (ty := .int) (by decide)
      have F301_line : Fld Z h301 b301 "com/example/conformance_check/conformancecheck/document/RationaleRow" "line" "I" (.int (0 : Int32)) := D301 (Or.inr (hw _ (List.mem_of_getElem? (i := 69) rfl))) (ty := .int) (by decide)
      have F301_component : Fld Z h301 b301 "com/example/conformance_check/conformancecheck/document/RationaleRow" "component" "Ljava/lang/String;" .null := D301 (Or.inr (hw _ (List.mem_of_getElem? (i := 71) rfl))) (ty := (.object "java/lang/String")) (by decide)
      have F301_named : Fld Z h301 b301 "com/example/conformance_check/conformancecheck/document/RationaleRow" "named" "Ljava/util/List;" .null := D301 (Or.inr (hw _ (List.mem_of_getElem? (i := 116) rfl))) (ty := (.object "java/util/List")) (by decide)
      have F301_dependencies : Fld Z h301 b301 "com/example/conformance_check/conformancecheck/document/RationaleRow" "dependencies" "Ljava/util/List;" .null := D301 (Or.inr (hw _ (List.mem_of_getElem? (i := 118) rfl))) (ty := (.object "java/util/List")) (by decide)
      have F301_givesReferences : Fld Z h301 b301 "com/example/conformance_check/conformancecheck/document/RationaleRow" "givesReferences" "Z" (.int (0 : Int32)) := D301 (Or.inr (hw _ (List.mem_of_getElem? (i := 120) rfl))) (ty := .boolean) (by decide)
      refine own_go ?_ (fun tq kt => st301 _ kt)
      show own_Fin _ _ _ _ (T301.setTop (mkF m 77 #[.val (.int p1), .val (.int p2), .val (.int p3), .val (.int p4), .val (.int (1 : Int32)), .val (.ref x280), .val (.ref b282), .val (.ref b286), .val (.ref x290), .val (.int (1 : Int32)), .unset, .unset] [(.ref b301)]))
      refine own_go ?_ (fun tq kt => XS.dup X301.here hx rfl (hb hby at_77) rfl rfl kt)
      show own_Fin _ _ _ _ (T301.setTop (mkF m 78 #[.val (.int p1), .val (.int p2), .val (.int p3), .val (.int p4), .val (.int (1 : Int32)), .val (.ref x280), .val (.ref b282), .val (.ref b286), .val (.ref x290), .val (.int (1 : Int32)), .unset, .unset] [(.ref b301), (.ref b301)]))
      refine own_go ?_ (fun tq kt => XS.aload X301.here hx rfl (hb hby at_78) rfl rfl kt)
      show own_Fin _ _ _ _ (T301.setTop (mkF m 80 #[.val (.int p1), .val (.int p2), .val (.int p3), .val (.int p4), .val (.int (1 : Int32)), .val (.ref x280), .val (.ref b282), .val (.ref b286), .val (.ref x290), .val (.int (1 : Int32)), .unset, .unset] [(.ref x280), (.ref b301), (.ref b301)]))
      refine own_go ?_ (fun tq kt => XS.iloadN X301.here hx rfl (hb hby at_80) rfl kt)
      show own_Fin _ _ _ _ (T301.setTop (mkF m 81 #[.val (.int p1), .val (.int p2), .val (.int p3), .val (.int p4), .val (.int (1 : Int32)), .val (.ref x280), .val (.ref b282), .val (.ref b286), .val (.ref x290), .val (.int (1 : Int32)), .unset, .unset] [(.int p3), (.ref x280), (.ref b301), (.ref b301)]))
      refine own_go ?_ (fun tq kt => XS.iloadN X301.here hx rfl (hb hby at_81) rfl kt)
      show own_Fin _ _ _ _ (T301.setTop (mkF m 82 #[.val (.int p1), .val (.int p2), .val (.int p3), .val (.int p4), .val (.int (1 : Int32)), .val (.ref x280), .val (.ref b282), .val (.ref b286), .val (.ref x290), .val (.int (1 : Int32)), .unset, .unset] [(.int p4), (.int p3), (.ref x280), (.ref b301), (.ref b301)]))
      refine own_go ?_ (fun tq kt => XS.aload X301.here hx rfl (hb hby at_82) rfl rfl kt)
      show own_Fin _ _ _ _ (T301.setTop (mkF m 84 #[.val (.int p1), .val (.int p2), .val (.int p3), .val (.int p4), .val (.int (1 : Int32)), .val (.ref x280), .val (.ref b282), .val (.ref b286), .val (.ref x290), .val (.int (1 : Int32)), .unset, .unset] [(.ref x290), (.int p4), (.int p3), (.ref x280), (.ref b301), (.ref b301)]))
      refine own_go ?_ (fun tq kt => XS.aload X301.here hx rfl (hb hby at_84) rfl rfl kt)
      show own_Fin _ _ _ _ (T301.setTop (mkF m 86 #[.val (.int p1), .val (.int p2), .val (.int p3), .val (.int p4), .val (.int (1 : Int32)), .val (.ref x280), .val (.ref b282), .val (.ref b286), .val (.ref x290), .val (.int (1 : Int32)), .unset, .unset] [(.ref b282), (.ref x290), (.int p4), (.int p3), (.ref x280), (.ref b301), (.ref b301)]))
      refine own_go ?_ (fun tq kt => XS.aload X301.here hx rfl (hb hby at_86) rfl rfl kt)
      show own_Fin _ _ _ _ (T301.setTop (mkF m 88 #[.val (.int p1), .val (.int p2), .val (.int p3), .val (.int p4), .val (.int (1 : Int32)), .val (.ref x280), .val (.ref b282), .val (.ref b286), .val (.ref x290), .val (.int (1 : Int32)), .unset, .unset] [(.ref b286), (.ref b282), (.ref x290), (.int p4), (.int p3), (.ref x280), (.ref b301), (.ref b301)]))
      refine own_go ?_ (fun tq kt => XS.iload X301.here hx rfl (hb hby at_88) rfl kt)
      show own_Fin _ _ _ _ (T301.setTop (mkF m 90 #[.val (.int p1), .val (.int p2), .val (.int p3), .val (.int p4), .val (.int (1 : Int32)), .val (.ref x280), .val (.ref b282), .val (.ref b286), .val (.ref x290), .val (.int (1 : Int32)), .unset, .unset] [(.int (1 : Int32)), (.ref b286), (.ref b282), (.ref x290), (.int p4), (.int p3), (.ref x280), (.ref b301), (.ref b301)]))
      obtain ⟨_, _, ⟨T303, L303, k303, n303⟩, -, X303, ⟨Lc303, hQ303, l303, y303, z303⟩, st303⟩ := X301.specialBack hx (y := (⟨"com/example/conformance_check/conformancecheck/document/RationaleRow", "<init>", "(Ljava/lang/Integer;IILjava/lang/String;Ljava/util/List;Ljava/util/List;Z)V"⟩ : MethodName)) rfl hown (mvT hZ (hw _ (List.mem_of_getElem? (i := 60) rfl))) (mvT hZ (hw _ (List.mem_of_getElem? (i := 61) rfl))) (mvT hZ (hw _ (List.mem_of_getElem? (i := 62) rfl))) (by decide) (backOf (W := 1) (rm10 l Z a0 hw [] b301 (.ref x280) p3 p4 x290 b282 b286 (1 : Int32) mA mL mR h301 n0 zs302  A301 F301_number F301_index F301_line F301_component F301_named F301_dependencies F301_givesReferences g_b301 rfl (((((A282.keep K284).ext E286).keep K288).ext E290).ext E301) (((A286.keep K288).ext E290).ext E301) MA ML MR) hZ (hw _ (List.mem_of_getElem? (i := 62) rfl)) (hw _ (List.mem_of_getElem? (i := 59) rfl)) (by decide) (by decide)) (g := (mkF m 90 #[.val (.int p1), .val (.int p2), .val (.int p3), .val (.int p4), .val (.int (1 : Int32)), .val (.ref x280), .val (.ref b282), .val (.ref b286), .val (.ref x290), .val (.int (1 : Int32)), .unset, .unset] [(.int (1 : Int32)), (.ref b286), (.ref b282), (.ref x290), (.int p4), (.int p3), (.ref x280), (.ref b301), (.ref b301)])) rfl (by rw [hml]; rfl) (Steps.refl _) (a := b301) (argsL := [(.ref x280), (.int p3), (.int p4), (.ref x290), (.ref b282), (.ref b286), (.int (1 : Int32))]) (rest := [(.ref b301)]) (lenOf own_pd12 rfl) rfl (by show 2 * 0 + _ ≤ _; exact Nat.le_of_eq rfl) (hb hby at_90) (fun _ _ => ⟨rfl, e301, (by decide : 6 + 2 ≤ _), (by decide : 19 + 4 ≤ _)⟩)
      dsimp only [Pt.U, Pt.locs, Pt.cells, Pt.slots] at X303 l303 y303 z303 st303 hQ303
      subst l303 y303 z303
      obtain ⟨rfl, N303q, K303, F303_0, F303_1, F303_2, F303_3, F303_4⟩ := hQ303
      have N303 := Fr.app N290 N303q
      obtain ⟨h303, e303⟩ : ∃ z, z = T303.heap := ⟨_, rfl⟩
      have e303' := e303.symm
      rw [← e303] at K303 F303_0 F303_1 F303_2 F303_3 F303_4
      have zs304 := Nat.le_trans zs302 K303.1
      have od304 := od302.keep K303 (allS g_b301 all0)
      refine own_go ?_ (fun tq kt => st303.trans kt)
      show own_Fin _ _ _ _ (T303.setTop (mkF m 93 #[.val (.int p1), .val (.int p2), .val (.int p3), .val (.int p4), .val (.int (1 : Int32)), .val (.ref x280), .val (.ref b282), .val (.ref b286), .val (.ref x290), .val (.int (1 : Int32)), .unset, .unset] [(.ref b301)]))
      refine own_go ?_ (fun tq kt => XS.astore X303.here hx rfl (hb hby at_93) rfl rfl (l' := #[.val (.int p1), .val (.int p2), .val (.int p3), .val (.int p4), .val (.int (1 : Int32)), .val (.ref x280), .val (.ref b282), .val (.ref b286), .val (.ref x290), .val (.int (1 : Int32)), .val (.ref b301), .unset]) rfl kt)
      show own_Fin _ _ _ _ (T303.setTop (mkF m 95 #[.val (.int p1), .val (.int p2), .val (.int p3), .val (.int p4), .val (.int (1 : Int32)), .val (.ref x280), .val (.ref b282), .val (.ref b286), .val (.ref x290), .val (.int (1 : Int32)), .val (.ref b301), .unset] []))
      refine own_go ?_ (fun tq kt => XS.aload X303.here hx rfl (hb hby at_95) rfl rfl kt)
      show own_Fin _ _ _ _ (T303.setTop (mkF m 97 #[.val (.int p1), .val (.int p2), .val (.int p3), .val (.int p4), .val (.int (1 : Int32)), .val (.ref x280), .val (.ref b282), .val (.ref b286), .val (.ref x290), .val (.int (1 : Int32)), .val (.ref b301), .unset] [(.ref b301)]))
      obtain ⟨cq305, kq305, q305a, q305b, q305c⟩ := isOf hZ e303' (A301.keep K303)
      obtain ⟨_, _, ⟨T305, L305, k305, n305⟩, -, X305, ⟨Lc305, hQ305, l305, y305, z305⟩, st305⟩ := X303.virtualBack hx (y := (⟨"com/example/conformance_check/conformancecheck/document/RationaleRow", "number", "()Ljava/util/OptionalInt;"⟩ : MethodName)) (z := (⟨"com/example/conformance_check/conformancecheck/document/RationaleRow", "number", "()Ljava/util/OptionalInt;"⟩ : MethodName)) hown (mvT hZ (hw _ (List.mem_of_getElem? (i := 121) rfl))) (mvT hZ (hw _ (List.mem_of_getElem? (i := 122) rfl))) (notFace_of_selects (args := #[]) (mvT hZ (hw _ (List.mem_of_getElem? (i := 124) rfl)))) (mvT hZ (hw _ (List.mem_of_getElem? (i := 124) rfl))) (mvT hZ (hw _ (List.mem_of_getElem? (i := 123) rfl))) (by decide) (backOf (W := 0) (rm15s l Z a0 hw [] b301 x280 p1 h303 n0 zs304 F303_0 (((((((Ex280.ext E282).keep K284).ext E286).keep K288).ext E290).ext E301).keep K303) (((((((Fv280.ext E282).keep K284 (ninS ne_x280_b282 nin0)).ext E286).keep K288 (ninS ne_x280_b286 nin0)).ext E290).ext E301).keep K303 (ninS ne_x280_b301 nin0))) hZ (hw _ (List.mem_of_getElem? (i := 125) rfl)) (hw _ (List.mem_of_getElem? (i := 59) rfl)) (by decide) (by decide)) q305a q305c (g := (mkF m 97 #[.val (.int p1), .val (.int p2), .val (.int p3), .val (.int p4), .val (.int (1 : Int32)), .val (.ref x280), .val (.ref b282), .val (.ref b286), .val (.ref x290), .val (.int (1 : Int32)), .val (.ref b301), .unset] [(.ref b301)])) rfl (by rw [hml]; rfl) (Steps.refl _) (argsL := []) (rest := []) (lenOf own_pd8 rfl) rfl (by show 2 * 0 + _ ≤ _; exact Nat.le_of_eq rfl) (hb hby at_97) (fun _ _ => ⟨rfl, e303', (by decide : 8 + 1 ≤ _), (by decide : 23 + 2 ≤ _)⟩)
      dsimp only [Pt.U, Pt.locs, Pt.cells, Pt.slots] at X305 l305 y305 z305 st305 hQ305
      subst l305 y305 z305
      obtain ⟨x305, rfl, N305q, E305, Ex305, Fp305, Fv305⟩ := hQ305
      have N305 := Fr.app N303 N305q
      obtain ⟨h305, e305⟩ : ∃ z, z = T305.heap := ⟨_, rfl⟩
      have e305' := e305.symm
      rw [← e305] at E305 Ex305 Fp305 Fv305
      have zs306 := Nat.le_trans zs304 E305.1
      have od306 := od304.ext E305
      refine own_go ?_ (fun tq kt => st305.trans kt)
      show own_Fin _ _ _ _ (T305.setTop (mkF m 100 #[.val (.int p1), .val (.int p2), .val (.int p3), .val (.int p4), .val (.int (1 : Int32)), .val (.ref x280), .val (.ref b282), .val (.ref b286), .val (.ref x290), .val (.int (1 : Int32)), .val (.ref b301), .unset] [(.ref x305)]))
      refine own_go ?_ (fun tq kt => XS.astore X305.here hx rfl (hb hby at_100) rfl rfl (l' := #[.val (.int p1), .val (.int p2), .val (.int p3), .val (.int p4), .val (.int (1 : Int32)), .val (.ref x280), .val (.ref b282), .val (.ref b286), .val (.ref x290), .val (.int (1 : Int32)), .val (.ref b301), .val (.ref x305)]) rfl kt)
      show own_Fin _ _ _ _ (T305.setTop (mkF m 102 #[.val (.int p1), .val (.int p2), .val (.int p3), .val (.int p4), .val (.int (1 : Int32)), .val (.ref x280), .val (.ref b282), .val (.ref b286), .val (.ref x290), .val (.int (1 : Int32)), .val (.ref b301), .val (.ref x305)] []))
      refine own_go ?_ (fun tq kt => XS.iload X305.here hx rfl (hb hby at_102) rfl kt)
      show own_Fin _ _ _ _ (T305.setTop (mkF m 104 #[.val (.int p1), .val (.int p2), .val (.int p3), .val (.int p4), .val (.int (1 : Int32)), .val (.ref x280), .val (.ref b282), .val (.ref b286), .val (.ref x290), .val (.int (1 : Int32)), .val (.ref b301), .val (.ref x305)] [(.int (1 : Int32))]))
      refine own_go ?_ (fun tq kt => XS.ifYes X305.here hx rfl (pc0 := 104) (pc' := 121) rfl (hb hby at_104) rfl ((if0 _ _).trans (feq ((by decide) : ¬ ((1 : Int32) = (0 : Int32)))).2) (by decide) (by decide) kt)
      show own_Fin _ _ _ _ (T305.setTop (mkF m 121 #[.val (.int p1), .val (.int p2), .val (.int p3), .val (.int p4), .val (.int (1 : Int32)), .val (.ref x280), .val (.ref b282), .val (.ref b286), .val (.ref x290), .val (.int (1 : Int32)), .val (.ref b301), .val (.ref x305)] []))
      refine own_go ?_ (fun tq kt => XS.aload X305.here hx rfl (hb hby at_121) rfl rfl kt)
      show own_Fin _ _ _ _ (T305.setTop (mkF m 123 #[.val (.int p1), .val (.int p2), .val (.int p3), .val (.int p4), .val (.int (1 : Int32)), .val (.ref x280), .val (.ref b282), .val (.ref b286), .val (.ref x290), .val (.int (1 : Int32)), .val (.ref b301), .val (.ref x305)] [(.ref x305)]))
      obtain ⟨cq307, kq307, q307a, q307b, q307c⟩ := isOf hZ e305' Ex305
      obtain ⟨_, _, ⟨T307, L307, k307, n307⟩, -, X307, ⟨Lc307, hQ307, l307, y307, z307⟩, st307⟩ := X305.virtualBack hx (y := (⟨"java/util/OptionalInt", "isPresent", "()Z"⟩ : MethodName)) (z := (⟨"java/util/OptionalInt", "isPresent", "()Z"⟩ : MethodName)) hown (mvT hZ (hw _ (List.mem_of_getElem? (i := 148) rfl))) (mvT hZ (hw _ (List.mem_of_getElem? (i := 149) rfl))) (notFace_of_selects (args := #[]) (mvT hZ (hw _ (List.mem_of_getElem? (i := 151) rfl)))) (mvT hZ (hw _ (List.mem_of_getElem? (i := 151) rfl))) (mvT hZ (hw _ (List.mem_of_getElem? (i := 150) rfl))) (by decide) (backOf (W := 0) (rm19 l Z a0 hw [] x305 (1 : Int32) h305 n0 zs306 Fp305 rfl) hZ (hw _ (List.mem_of_getElem? (i := 152) rfl)) (hw _ (List.mem_of_getElem? (i := 135) rfl)) (by decide) (by decide)) q307a q307c (g := (mkF m 123 #[.val (.int p1), .val (.int p2), .val (.int p3), .val (.int p4), .val (.int (1 : Int32)), .val (.ref x280), .val (.ref b282), .val (.ref b286), .val (.ref x290), .val (.int (1 : Int32)), .val (.ref b301), .val (.ref x305)] [(.ref x305)])) rfl (by rw [hml]; rfl) (Steps.refl _) (argsL := []) (rest := []) (lenOf own_pd13 rfl) rfl (by show 2 * 0 + _ ≤ _; exact Nat.le_of_eq rfl) (hb hby at_123) (fun _ _ => ⟨rfl, e305', (by decide : 9 + 0 ≤ _), (by decide : 25 + 0 ≤ _)⟩)
      dsimp only [Pt.U, Pt.locs, Pt.cells, Pt.slots] at X307 l307 y307 z307 st307 hQ307
      subst l307 y307 z307
      obtain ⟨rfl, N307q, e307⟩ := hQ307
      have N307 := Fr.app N305 N307q
      refine own_go ?_ (fun tq kt => st307.trans kt)
      show own_Fin _ _ _ _ (T307.setTop (mkF m 126 #[.val (.int p1), .val (.int p2), .val (.int p3), .val (.int p4), .val (.int (1 : Int32)), .val (.ref x280), .val (.ref b282), .val (.ref b286), .val (.ref x290), .val (.int (1 : Int32)), .val (.ref b301), .val (.ref x305)] [(.int (1 : Int32))]))
      refine own_go ?_ (fun tq kt => XS.ifNo X307.here hx rfl (hb hby at_126) rfl ((if0 _ _).trans (feq ((by decide) : ¬ ((1 : Int32) = (0 : Int32)))).1) kt)
      show own_Fin _ _ _ _ (T307.setTop (mkF m 129 #[.val (.int p1), .val (.int p2), .val (.int p3), .val (.int p4), .val (.int (1 : Int32)), .val (.ref x280), .val (.ref b282), .val (.ref b286), .val (.ref x290), .val (.int (1 : Int32)), .val (.ref b301), .val (.ref x305)] []))
      refine own_go ?_ (fun tq kt => XS.aload X307.here hx rfl (hb hby at_129) rfl rfl kt)
      show own_Fin _ _ _ _ (T307.setTop (mkF m 131 #[.val (.int p1), .val (.int p2), .val (.int p3), .val (.int p4), .val (.int (1 : Int32)), .val (.ref x280), .val (.ref b282), .val (.ref b286), .val (.ref x290), .val (.int (1 : Int32)), .val (.ref b301), .val (.ref x305)] [(.ref x305)]))
      obtain ⟨cq308, kq308, q308a, q308b, q308c⟩ := isOf hZ e307 Ex305
      obtain ⟨_, _, ⟨T308, L308, k308, n308⟩, -, X308, ⟨Lc308, hQ308, l308, y308, z308⟩, st308⟩ := X307.virtualBack hx (y := (⟨"java/util/OptionalInt", "getAsInt", "()I"⟩ : MethodName)) (z := (⟨"java/util/OptionalInt", "getAsInt", "()I"⟩ : MethodName)) hown (mvT hZ (hw _ (List.mem_of_getElem? (i := 153) rfl))) (mvT hZ (hw _ (List.mem_of_getElem? (i := 154) rfl))) (notFace_of_selects (args := #[]) (mvT hZ (hw _ (List.mem_of_getElem? (i := 156) rfl)))) (mvT hZ (hw _ (List.mem_of_getElem? (i := 156) rfl))) (mvT hZ (hw _ (List.mem_of_getElem? (i := 155) rfl))) (by decide) (backOf (W := 0) (rm20 l Z a0 hw [] x305 (1 : Int32) p1 h305 n0 zs306 Fp305 Fv305 (by decide)) hZ (hw _ (List.mem_of_getElem? (i := 157) rfl)) (hw _ (List.mem_of_getElem? (i := 135) rfl)) (by decide) (by decide)) q308a q308c (g := (mkF m 131 #[.val (.int p1), .val (.int p2), .val (.int p3), .val (.int p4), .val (.int (1 : Int32)), .val (.ref x280), .val (.ref b282), .val (.ref b286), .val (.ref x290), .val (.int (1 : Int32)), .val (.ref b301), .val (.ref x305)] [(.ref x305)])) rfl (by rw [hml]; rfl) (Steps.refl _) (argsL := []) (rest := []) (lenOf own_pd9 rfl) rfl (by show 2 * 0 + _ ≤ _; exact Nat.le_of_eq rfl) (hb hby at_131) (fun _ _ => ⟨rfl, e307, (by decide : 9 + 0 ≤ _), (by decide : 25 + 0 ≤ _)⟩)
      dsimp only [Pt.U, Pt.locs, Pt.cells, Pt.slots] at X308 l308 y308 z308 st308 hQ308
      subst l308 y308 z308
      obtain ⟨rfl, N308q, e308⟩ := hQ308
      have N308 := Fr.app N307 N308q
      refine own_go ?_ (fun tq kt => st308.trans kt)
      show own_Fin _ _ _ _ (T308.setTop (mkF m 134 #[.val (.int p1), .val (.int p2), .val (.int p3), .val (.int p4), .val (.int (1 : Int32)), .val (.ref x280), .val (.ref b282), .val (.ref b286), .val (.ref x290), .val (.int (1 : Int32)), .val (.ref b301), .val (.ref x305)] [(.int p1)]))
      refine own_go ?_ (fun tq kt => XS.iloadN X308.here hx rfl (hb hby at_134) rfl kt)
      show own_Fin _ _ _ _ (T308.setTop (mkF m 135 #[.val (.int p1), .val (.int p2), .val (.int p3), .val (.int p4), .val (.int (1 : Int32)), .val (.ref x280), .val (.ref b282), .val (.ref b286), .val (.ref x290), .val (.int (1 : Int32)), .val (.ref b301), .val (.ref x305)] [(.int p1), (.int p1)]))
      refine own_go ?_ (fun tq kt => XS.icmpNo X308.here hx rfl (hb hby at_135) rfl (teq (rfl : p1 = p1)).2 kt)
      show own_Fin _ _ _ _ (T308.setTop (mkF m 138 #[.val (.int p1), .val (.int p2), .val (.int p3), .val (.int p4), .val (.int (1 : Int32)), .val (.ref x280), .val (.ref b282), .val (.ref b286), .val (.ref x290), .val (.int (1 : Int32)), .val (.ref b301), .val (.ref x305)] []))
      refine own_go ?_ (fun tq kt => XS.iconst X308.here hx rfl (hb hby at_138) kt)
      show own_Fin _ _ _ _ (T308.setTop (mkF m 139 #[.val (.int p1), .val (.int p2), .val (.int p3), .val (.int p4), .val (.int (1 : Int32)), .val (.ref x280), .val (.ref b282), .val (.ref b286), .val (.ref x290), .val (.int (1 : Int32)), .val (.ref b301), .val (.ref x305)] [(.int (1 : Int32))]))
      refine own_go ?_ (fun tq kt => XS.goto X308.here hx rfl (pc0 := 139) (pc' := 143) rfl (hb hby at_139) (by decide) (by decide) kt)
      show own_Fin _ _ _ _ (T308.setTop (mkF m 143 #[.val (.int p1), .val (.int p2), .val (.int p3), .val (.int p4), .val (.int (1 : Int32)), .val (.ref x280), .val (.ref b282), .val (.ref b286), .val (.ref x290), .val (.int (1 : Int32)), .val (.ref b301), .val (.ref x305)] [(.int (1 : Int32))]))
      refine own_retN X308 hx (t := .boolean) Bd.returns (by simp) (hb hby at_143) hlk ?_ (by decide) (by decide)
      exact ⟨rfl, N308⟩
set_option maxRecDepth 65536 in
set_option maxHeartbeats 40000000 in
theorem comes_1 {Post : Tables → Env → Array Value → State → Outcome → State → Prop} (hpost : ∀ tb e args s v u, (limb_1_1.after args s (.returned v) u = true ∧ limb_1_2.after args s (.returned v) u = true ∧ True) → FrameEnd s (.returned v) u (Jvm.fieldLocs frame_1_writes args s ++ Jvm.arrayLocs frame_1_arrays args s ++ Jvm.staticLocs frame_1_statics s) 32 128 → Post tb e args s (.returned v) u) :
    ArmFor flags0 classFile x code maxLocals ret World_1 tables_1 room_1 Calls_1 rest_1 Pre_1 Post := by
  intro l hfl _ _ p e ha hc hk s m args below hf hA hF happ hP
  obtain ⟨hcalls, hrest, hpre⟩ := hP
  obtain ⟨-, -, -, hnamed, -, -, -, hat⟩ := (Spec.applies_iff hf).mp happ
  obtain ⟨hg, hn⟩ := and_e (Cond.before_iff.mp (show (Jvm.Cond.and given_1 narrow_1).before args s = true from hpre))
  obtain ⟨g0, hg⟩ := and_e hg
  obtain ⟨g1, hg⟩ := and_e hg
  obtain ⟨g2, hg⟩ := and_e hg
  obtain ⟨g3, g4⟩ := and_e hg
  obtain ⟨w0, w1, w2, w3, rfl⟩ : ∃ w0 w1 w2 w3 : Value, args = #[w0, w1, w2, w3] := by
    have hs : args.size = 4 := by simpa [Cond.value, given_1] using g0
    obtain ⟨L⟩ := args
    match L, hs with
    | [w0, w1, w2, w3], _ => exact ⟨w0, w1, w2, w3, rfl⟩
  have hw := fun d (hd : d ∈ tables_1) => atoms_spec (ws := Jvm.Cond.code x code maxLocals ret :: tables_1) hat d (List.mem_cons_of_mem _ hd)
  have hfit : Fit s := fun {y c} hc i hi => by
    obtain ⟨ha, rfl⟩ := Array.getElem?_eq_some_iff.mp hc
    have q := List.all_eq_true.mp ((Array.all_eq_true_iff_forall_mem.mp hF) _ (Array.getElem_mem ha)) i (List.mem_range.mpr hi)
    simpa [Array.getElem?_eq_getElem hi] using q
  obtain ⟨i0, ei0⟩ := is_v g1
  obtain rfl : w0 = (.int i0) := Option.some.inj ei0
  obtain ⟨i1, ei1⟩ := is_v g2
  obtain rfl : w1 = (.int i1) := Option.some.inj ei1
  obtain ⟨i2, ei2⟩ := is_v g3
  obtain rfl : w2 = (.int i2) := Option.some.inj ei2
  obtain ⟨i3, ei3⟩ := is_v g4
  obtain rfl : w3 = (.int i3) := Option.some.inj ei3
  obtain ⟨hsets, hown0⟩ := atoms_of _ (rest_1_c_eq ▸ (show rest_1_c.before _ s = true from hrest))
  obtain ⟨cs0, ecs⟩ := is_v (Cond.before_iff.mp (hsets _ (List.mem_of_getElem? (i := 18) rfl)))
  have SCS : Sta s s.heap "java/lang/String" "COMPACT_STRINGS" "Z" (.int cs0) := Sta.start ecs (Or.inl (hsets _ (List.mem_of_getElem? (i := 17) rfl)))
  have hcs : ¬ cs0 = 0 := gotF (Cond.eq_ints ecs (Term.int_eval (0))) (not_v (Cond.before_iff.mp (hsets _ (List.mem_of_getElem? (i := 19) rfl))))
  obtain ⟨ca, eca⟩ := arr_v (Cond.before_iff.mp (hsets _ (List.mem_of_getElem? (i := 4) rfl)))
  obtain ⟨de, ede⟩ := arr_v (Cond.before_iff.mp (hsets _ (List.mem_of_getElem? (i := 14) rfl)))
  obtain ⟨oe, eoe⟩ := exa_v (Cond.before_iff.mp (hsets _ (List.mem_of_getElem? (i := 28) rfl)))
  obtain ⟨cl, ACA⟩ := Arr.start eca (Cond.before_iff.mp (hsets _ (List.mem_of_getElem? (i := 4) rfl)))
  have l256 := own_len eca ACA (Cond.before_iff.mp (hsets _ (List.mem_of_getElem? (i := 6) rfl)))
  have ehi := Cond.eq_int (beq_iff_eq.mpr (Cond.before_iff.mp (hsets _ (List.mem_of_getElem? (i := 3) rfl)))) (Term.int_eval (127))
  have SHI : Sta s s.heap "java/lang/Integer$IntegerCache" "high" "I" (.int (127 : Int32)) := Sta.start ehi (Or.inl (hsets _ (List.mem_of_getElem? (i := 1) rfl)))
  have SCA : Sta s s.heap "java/lang/Integer$IntegerCache" "cache" "[Ljava/lang/Integer;" (.ref ca) := Sta.start eca (Or.inr ⟨(hw _ (List.mem_of_getElem? (i := 5) rfl)), (hsets _ (List.mem_of_getElem? (i := 2) rfl))⟩)
  have SDE : Sta s s.heap "java/util/ArrayList" "DEFAULTCAPACITY_EMPTY_ELEMENTDATA" "[Ljava/lang/Object;" (.ref de) := Sta.start ede (Or.inr ⟨(hw _ (List.mem_of_getElem? (i := 9) rfl)), (hsets _ (List.mem_of_getElem? (i := 10) rfl))⟩)
  have SEM : Sta s s.heap "java/util/OptionalInt" "EMPTY" "Ljava/util/OptionalInt;" (.ref oe) := Sta.start eoe (Or.inl (hsets _ (List.mem_of_getElem? (i := 27) rfl)))
  have EEM := Exa.start eoe (Cond.before_iff.mp (hsets _ (List.mem_of_getElem? (i := 28) rfl)))
  have FEM := own_feq eoe (Cond.before_iff.mp (hsets _ (List.mem_of_getElem? (i := 29) rfl)))
  have ZCA := own_siz l256
  have BCA : own_Box s cl := own_box eca ACA l256.1 (Cond.before_iff.mp (hsets _ (List.mem_of_getElem? (i := 7) rfl)))
  obtain ⟨m1, m2, m3, -⟩ := hcalls
  obtain ⟨_, _, mA, a1, a2, a3⟩ := m1
  obtain ⟨_, _, mL, b1, b2, b3⟩ := m2
  obtain ⟨_, _, mR, c1, c2, c3⟩ := m3
  obtain ⟨n, o, h1, h2, h3, _, L, rfl, ⟨rfl, N⟩, hq⟩ := rm0 l s _ hw tables_1 i0 i1 i2 i3 ca cl de cs0 mA mL mR oe s.heap s.heap.size (Nat.le_refl _) (Old.start s) SHI SCA ACA ZCA BCA SDE SCS hcs ⟨_, _, a1, a2, a3.1⟩ ⟨_, _, b1, b2, b3.1⟩ ⟨_, _, c1, c2, c3.1⟩ SEM EEM FEM p e ha hc hk s m _ below hf ((Spec.applies_iff_loose hf).mp happ).1 ⟨rfl, State.Warmed39.refl s, rfl⟩ trivial
  refine ⟨n, _, h1, h2, h3, hpost _ _ _ _ _ _ ⟨Cond.after_iff.mpr rfl, Cond.after_iff.mpr (eq_i res_at (Term.int_eval (1)) rfl), trivial⟩ ⟨hq.1, hq.2.1, (hq.2.2.sift fun y hy => Or.inr (N y hy)).mono (by decide) (by decide)⟩⟩
theorem main_1_1 : Claimed_1_1 := comes_1 fun _ _ _ _ _ _ h hF => ⟨h.1, hF⟩
theorem main_1_2 : Claimed_1_2 := comes_1 fun _ _ _ _ _ _ h hF => ⟨h.2.1, hF⟩
end Jvm.Pilot.@@N@@
namespace Jvm.Pilot.@@N@@
open Jvm Jvm.ClassFile Sem Op Lib Jvm.Free Jvm.Stand Jvm.Pilot.@@N@@.Jvm.D
/-! MADE BY PROGRAM (witnessworld.py) out of the Statement's table words and the real class files: 35 classes; the members and pool entries that the words name. The judged class is class 1, her method 1. -/
namespace start1
open Jvm.ClassFile
def u (s : String) : CpInfo := .utf8 (stringToUtf16 s)
/-- a pool by its gaps: so many unusable entries, then the entry; so many at the end -/
def gap : Nat → List CpInfo → List CpInfo
  | 0, r => r
  | n + 1, r => .unusable :: gap n r
def poolList (es : List (Nat × CpInfo)) (last : Nat) : List CpInfo := es.foldr (fun e r => gap e.1 (e.2 :: r)) (gap last [])
def pool (es : List (Nat × CpInfo)) (last : Nat) : Array CpInfo := ⟨poolList es last⟩
def fileOf (pool : Array CpInfo) (this : Nat) (attrs : Array Attribute := #[]) (ms : Array MethodInfo := #[]) (fl : Nat := 33) (sup : Nat := 0) (ifs : Array Nat := #[]) (fds : Array FieldInfo := #[]) : ClassFile where
  minorVersion := 0
  majorVersion := 65
  constantPool := pool
  accessFlags := fl
  thisClass := this
  superClass := sup
  interfaces := ifs
  fields := fds
  methods := ms
  attributes := attrs
def plain (name : String) (sup : Option ClassId) : Class where
  name := name
  kind := .ordinary
  loader := none
  accessFlags := 33
  super := sup
  interfaces := #[]
  cf := none
  fields := #[]
  methods := #[]
  instanceTypes := #[]
  staticTypes := #[]
  resolved := #[]
  callSites := []
  init := .initialized
  statics := none
  mirror := none

def pool0 : Array CpInfo := pool [(5, u "<init>"), (0, u "()V"), (1, .class_ 10), (1, u "java/lang/Object"), (0, u "getClass"), (0, u "()Ljava/lang/Class;")] 111

def k0c0 : Code := { maxStack := 0, maxLocals := 1, code := object_method_1_code, exceptionTable := #[], attributes := #[] }
def k0m0 : Method := { name := "<init>", desc := "()V", sig := { parameters := [], returnType := none }, accessFlags := 1, code := some k0c0 }
def k0m1 : Method := { name := "getClass", desc := "()Ljava/lang/Class;", sig := { parameters := [], returnType := some (.object "java/lang/Class") }, accessFlags := 273, code := none }
/-- java/lang/Object -/
def k0 : Class := { plain "java/lang/Object" none with
  accessFlags := 33
  interfaces := #[]
  cf := some (fileOf pool0 8 #[] #[{ accessFlags := 1, nameIndex := 5, descriptorIndex := 6, attributes := #[] }, { accessFlags := 273, nameIndex := 11, descriptorIndex := 12, attributes := #[] }] 33 0 #[] #[])
  fields := #[]
  methods := #[k0m0, k0m1]
  instanceTypes := #[]
  staticTypes := #[]
  resolved := Array.replicate 124 none
  statics := none }

def pool1 : Array CpInfo := pool [(2, .class_ 4), (0, .nameAndType 5 6), (0, u "java/lang/Object"), (0, u "<init>"), (0, u "()V"), (0, .methodref 8 9), (0, .class_ 10), (0, .nameAndType 11 12), (0, u "java/lang/Integer"), (0, u "valueOf"), (0, u "(I)Ljava/lang/Integer;"), (0, .class_ 14), (0, u "java/util/ArrayList"), (0, .methodref 13 3), (0, .methodref 17 18), (0, .class_ 19), (0, .nameAndType 11 20), (0, u "java/lang/String"), (0, u "(C)Ljava/lang/String;"), (0, .class_ 22), (0, u "com/example/conformance_check/conformancecheck/document/RationaleRow"), (0, .methodref 21 24), (0, .nameAndType 5 25), (0, u "(Ljava/lang/Integer;IILjava/lang/String;Ljava/util/List;Ljava/util/List;Z)V"), (0, .methodref 21 27), (0, .nameAndType 28 29), (0, u "number"), (0, u "()Ljava/util/OptionalInt;"), (0, .methodref 31 32), (0, .class_ 33), (0, .nameAndType 34 35), (0, u "java/util/OptionalInt"), (0, u "isPresent"), (0, u "()Z"), (0, .methodref 31 37), (0, .nameAndType 38 39), (0, u "getAsInt"), (0, u "()I"), (0, .class_ 41), (0, u "com/example/conformance_check/conformancecheck/document/RationaleRowNumberPinLaw"), (2, u "law"), (0, u "(IIII)Z")] 5

def k1m0 : Method := { name := "<init>", desc := "()V", sig := { parameters := [], returnType := none }, accessFlags := 1, code := none }
def k1c1 : Code := { maxStack := 9, maxLocals := 12, code := code, exceptionTable := #[], attributes := #[] }
def k1m1 : Method := { name := "law", desc := "(IIII)Z", sig := { parameters := [.int, .int, .int, .int], returnType := some .boolean }, accessFlags := 9, code := some k1c1 }
/-- com/example/conformance_check/conformancecheck/document/RationaleRowNumberPinLaw -/
def k1 : Class := { plain "com/example/conformance_check/conformancecheck/document/RationaleRowNumberPinLaw" (some 0) with
  accessFlags := 49
  interfaces := #[]
  cf := some (fileOf pool1 40 #[] #[{ accessFlags := 1, nameIndex := 5, descriptorIndex := 6, attributes := #[] }, { accessFlags := 9, nameIndex := 44, descriptorIndex := 45, attributes := #[] }] 49 2 #[] #[])
  fields := #[]
  methods := #[k1m0, k1m1]
  instanceTypes := #[]
  staticTypes := #[]
  resolved := Array.replicate 51 none
  statics := none }

def pool2 : Array CpInfo := pool [(1, .class_ 2), (0, u "java/io/Serializable"), (0, .class_ 4), (0, u "java/lang/Object")] 2

/-- java/io/Serializable -/
def k2 : Class := { plain "java/io/Serializable" (some 0) with
  accessFlags := 1537
  interfaces := #[]
  cf := some (fileOf pool2 1 #[] #[] 1537 3 #[] #[])
  fields := #[]
  methods := #[]
  instanceTypes := #[]
  staticTypes := #[]
  resolved := Array.replicate 7 none
  statics := none }

def pool3 : Array CpInfo := pool [(1, .methodref 2 3), (0, .class_ 4), (0, .nameAndType 5 6), (0, u "java/lang/Object"), (0, u "<init>"), (0, u "()V"), (1, .class_ 10), (1, u "java/lang/Number"), (2, .class_ 14), (0, u "java/io/Serializable"), (0, u "serialVersionUID"), (0, u "J")] 20

def k3c0 : Code := { maxStack := 1, maxLocals := 1, code := jdk_18_method_1_code, exceptionTable := #[], attributes := #[] }
def k3m0 : Method := { name := "<init>", desc := "()V", sig := { parameters := [], returnType := none }, accessFlags := 1, code := some k3c0 }
/-- java/lang/Number -/
def k3 : Class := { plain "java/lang/Number" (some 0) with
  accessFlags := 1057
  interfaces := #[2]
  cf := some (fileOf pool3 8 #[] #[{ accessFlags := 1, nameIndex := 5, descriptorIndex := 6, attributes := #[] }] 1057 2 #[13] #[{ accessFlags := 26, nameIndex := 15, descriptorIndex := 16, attributes := #[] }])
  fields := #[{ name := "serialVersionUID", type := .long, accessFlags := 26, slot := 0, constantValue := 0 }]
  methods := #[k3m0]
  instanceTypes := #[]
  staticTypes := #[.long]
  resolved := Array.replicate 37 none
  statics := none }

def pool4 : Array CpInfo := pool [(1, .class_ 2), (0, u "java/lang/Comparable"), (0, .class_ 4), (0, u "java/lang/Object")] 7

/-- java/lang/Comparable -/
def k4 : Class := { plain "java/lang/Comparable" (some 0) with
  accessFlags := 1537
  interfaces := #[]
  cf := some (fileOf pool4 1 #[] #[] 1537 3 #[] #[])
  fields := #[]
  methods := #[]
  instanceTypes := #[]
  staticTypes := #[]
  resolved := Array.replicate 12 none
  statics := none }

def pool5 : Array CpInfo := pool [(1, .class_ 2), (0, u "java/lang/constant/Constable"), (0, .class_ 4), (0, u "java/lang/Object")] 6

/-- java/lang/constant/Constable -/
def k5 : Class := { plain "java/lang/constant/Constable" (some 0) with
  accessFlags := 1537
  interfaces := #[]
  cf := some (fileOf pool5 1 #[] #[] 1537 3 #[] #[])
  fields := #[]
  methods := #[]
  instanceTypes := #[]
  staticTypes := #[]
  resolved := Array.replicate 11 none
  statics := none }

def pool6 : Array CpInfo := pool [(1, .class_ 2), (0, u "java/lang/constant/ConstantDesc"), (0, .class_ 4), (0, u "java/lang/Object")] 32

/-- java/lang/constant/ConstantDesc -/
def k6 : Class := { plain "java/lang/constant/ConstantDesc" (some 0) with
  accessFlags := 1537
  interfaces := #[]
  cf := some (fileOf pool6 1 #[] #[] 1537 3 #[] #[])
  fields := #[]
  methods := #[]
  instanceTypes := #[]
  staticTypes := #[]
  resolved := Array.replicate 37 none
  statics := none }

def pool7 : Array CpInfo := pool [(1, .class_ 2), (0, u "java/lang/Integer"), (16, u "digits"), (0, u "[C"), (46, u "<init>"), (17, u "DigitOnes"), (0, u "[B"), (2, u "DigitTens"), (10, .nameAndType 67 101), (0, u "()V"), (19, u "()I"), (65, u "valueOf"), (0, u "(I)Ljava/lang/Integer;"), (0, .class_ 190), (0, u "java/lang/Integer$IntegerCache"), (0, .fieldref 189 192), (0, .nameAndType 193 194), (0, u "high"), (0, u "I"), (0, .fieldref 189 196), (0, .nameAndType 197 198), (0, u "cache"), (0, u "[Ljava/lang/Integer;"), (0, .methodref 1 200), (0, .nameAndType 67 201), (0, u "(I)V"), (0, .methodref 203 100), (0, .class_ 204), (0, u "java/lang/Number"), (0, .fieldref 1 206), (0, .nameAndType 207 194), (0, u "value"), (5, u "intValue"), (88, u "TYPE"), (0, u "Ljava/lang/Class;"), (0, .class_ 305), (0, u "java/lang/Comparable"), (0, .class_ 307), (0, u "java/lang/constant/Constable"), (0, .class_ 309), (0, u "java/lang/constant/ConstantDesc"), (0, u "MIN_VALUE"), (1, u "MAX_VALUE"), (3, u "SIZE"), (1, u "BYTES"), (1, u "serialVersionUID"), (0, u "J")] 131

def k7c0 : Code := { maxStack := 3, maxLocals := 1, code := jdk_33_method_22_code, exceptionTable := #[], attributes := #[] }
def k7m0 : Method := { name := "valueOf", desc := "(I)Ljava/lang/Integer;", sig := { parameters := [.int], returnType := some (.object "java/lang/Integer") }, accessFlags := 9, code := some k7c0 }
def k7c1 : Code := { maxStack := 2, maxLocals := 2, code := jdk_33_method_23_code, exceptionTable := #[], attributes := #[] }
def k7m1 : Method := { name := "<init>", desc := "(I)V", sig := { parameters := [.int], returnType := none }, accessFlags := 1, code := some k7c1 }
def k7c2 : Code := { maxStack := 1, maxLocals := 1, code := jdk_33_method_27_code, exceptionTable := #[], attributes := #[] }
def k7m2 : Method := { name := "intValue", desc := "()I", sig := { parameters := [], returnType := some .int }, accessFlags := 1, code := some k7c2 }
/-- java/lang/Integer -/
def k7 : Class := { plain "java/lang/Integer" (some 3) with
  accessFlags := 49
  interfaces := #[4, 5, 6]
  cf := some (fileOf pool7 1 #[.nestMembers #[189]] #[{ accessFlags := 9, nameIndex := 187, descriptorIndex := 188, attributes := #[] }, { accessFlags := 1, nameIndex := 67, descriptorIndex := 201, attributes := #[] }, { accessFlags := 1, nameIndex := 213, descriptorIndex := 121, attributes := #[] }] 49 203 #[304, 306, 308] #[{ accessFlags := 25, nameIndex := 310, descriptorIndex := 194, attributes := #[] }, { accessFlags := 25, nameIndex := 312, descriptorIndex := 194, attributes := #[] }, { accessFlags := 25, nameIndex := 302, descriptorIndex := 303, attributes := #[] }, { accessFlags := 24, nameIndex := 19, descriptorIndex := 20, attributes := #[] }, { accessFlags := 24, nameIndex := 89, descriptorIndex := 86, attributes := #[] }, { accessFlags := 24, nameIndex := 85, descriptorIndex := 86, attributes := #[] }, { accessFlags := 18, nameIndex := 207, descriptorIndex := 194, attributes := #[] }, { accessFlags := 25, nameIndex := 316, descriptorIndex := 194, attributes := #[] }, { accessFlags := 25, nameIndex := 318, descriptorIndex := 194, attributes := #[] }, { accessFlags := 26, nameIndex := 320, descriptorIndex := 321, attributes := #[] }])
  fields := #[{ name := "MIN_VALUE", type := .int, accessFlags := 25, slot := 0, constantValue := 0 }, { name := "MAX_VALUE", type := .int, accessFlags := 25, slot := 1, constantValue := 0 }, { name := "TYPE", type := (.object "java/lang/Class"), accessFlags := 25, slot := 2, constantValue := 0 }, { name := "digits", type := (.array .char), accessFlags := 24, slot := 3, constantValue := 0 }, { name := "DigitTens", type := (.array .byte), accessFlags := 24, slot := 4, constantValue := 0 }, { name := "DigitOnes", type := (.array .byte), accessFlags := 24, slot := 5, constantValue := 0 }, { name := "value", type := .int, accessFlags := 18, slot := 0, constantValue := 0 }, { name := "SIZE", type := .int, accessFlags := 25, slot := 6, constantValue := 0 }, { name := "BYTES", type := .int, accessFlags := 25, slot := 7, constantValue := 0 }, { name := "serialVersionUID", type := .long, accessFlags := 26, slot := 8, constantValue := 0 }]
  methods := #[k7m0, k7m1, k7m2]
  instanceTypes := #[.int]
  staticTypes := #[.int, .int, (.object "java/lang/Class"), (.array .char), (.array .byte), (.array .byte), .int, .int, .long]
  resolved := Array.replicate 453 none
  statics := none }

def pool8 : Array CpInfo := pool [(2, .class_ 4), (1, u "java/lang/Object"), (0, u "<init>"), (0, u "()V"), (0, .class_ 8), (0, u "java/lang/Integer"), (7, .class_ 18), (1, u "java/lang/Integer$IntegerCache"), (0, u "$assertionsDisabled"), (0, u "Z"), (26, u "high"), (0, u "I"), (8, u "archivedCache"), (0, u "[Ljava/lang/Integer;"), (12, u "cache"), (0, u "low")] 27

def k8m0 : Method := { name := "<init>", desc := "()V", sig := { parameters := [], returnType := none }, accessFlags := 2, code := none }
/-- java/lang/Integer$IntegerCache -/
def k8 : Class := { plain "java/lang/Integer$IntegerCache" (some 0) with
  accessFlags := 48
  interfaces := #[]
  cf := some (fileOf pool8 16 #[.nestHost 7] #[{ accessFlags := 2, nameIndex := 5, descriptorIndex := 6, attributes := #[] }] 48 2 #[] #[{ accessFlags := 24, nameIndex := 72, descriptorIndex := 48, attributes := #[] }, { accessFlags := 24, nameIndex := 47, descriptorIndex := 48, attributes := #[] }, { accessFlags := 24, nameIndex := 71, descriptorIndex := 58, attributes := #[] }, { accessFlags := 8, nameIndex := 57, descriptorIndex := 58, attributes := #[] }, { accessFlags := 4120, nameIndex := 19, descriptorIndex := 20, attributes := #[] }])
  fields := #[{ name := "low", type := .int, accessFlags := 24, slot := 0, constantValue := 0 }, { name := "high", type := .int, accessFlags := 24, slot := 1, constantValue := 0 }, { name := "cache", type := (.array (.object "java/lang/Integer")), accessFlags := 24, slot := 2, constantValue := 0 }, { name := "archivedCache", type := (.array (.object "java/lang/Integer")), accessFlags := 8, slot := 3, constantValue := 0 }, { name := "$assertionsDisabled", type := .boolean, accessFlags := 4120, slot := 4, constantValue := 0 }]
  methods := #[k8m0]
  instanceTypes := #[]
  staticTypes := #[.int, .int, (.array (.object "java/lang/Integer")), (.array (.object "java/lang/Integer")), .boolean]
  resolved := Array.replicate 100 none
  statics := some 0 }

def pool9 : Array CpInfo := pool [(8, .class_ 10), (1, u "java/lang/Iterable"), (24, .class_ 36), (0, u "java/lang/Object")] 25

/-- java/lang/Iterable -/
def k9 : Class := { plain "java/lang/Iterable" (some 0) with
  accessFlags := 1537
  interfaces := #[]
  cf := some (fileOf pool9 8 #[] #[] 1537 35 #[] #[])
  fields := #[]
  methods := #[]
  instanceTypes := #[]
  staticTypes := #[]
  resolved := Array.replicate 62 none
  statics := none }

def pool10 : Array CpInfo := pool [(10, .class_ 12), (1, u "java/util/Collection"), (47, .class_ 61), (0, u "java/lang/Object"), (0, .class_ 63), (0, u "java/lang/Iterable")] 51

/-- java/util/Collection -/
def k10 : Class := { plain "java/util/Collection" (some 0) with
  accessFlags := 1537
  interfaces := #[9]
  cf := some (fileOf pool10 10 #[] #[] 1537 60 #[62] #[])
  fields := #[]
  methods := #[]
  instanceTypes := #[]
  staticTypes := #[]
  resolved := Array.replicate 115 none
  statics := none }

def pool11 : Array CpInfo := pool [(1, .methodref 2 3), (0, .class_ 4), (0, .nameAndType 5 6), (0, u "java/lang/Object"), (0, u "<init>"), (0, u "()V"), (1, .class_ 10), (1, u "java/util/AbstractCollection"), (66, .class_ 78), (0, u "java/util/Collection")] 81

def k11c0 : Code := { maxStack := 1, maxLocals := 1, code := jdk_22_method_1_code, exceptionTable := #[], attributes := #[] }
def k11m0 : Method := { name := "<init>", desc := "()V", sig := { parameters := [], returnType := none }, accessFlags := 4, code := some k11c0 }
/-- java/util/AbstractCollection -/
def k11 : Class := { plain "java/util/AbstractCollection" (some 0) with
  accessFlags := 1057
  interfaces := #[10]
  cf := some (fileOf pool11 8 #[] #[{ accessFlags := 4, nameIndex := 5, descriptorIndex := 6, attributes := #[] }] 1057 2 #[77] #[])
  fields := #[]
  methods := #[k11m0]
  instanceTypes := #[]
  staticTypes := #[]
  resolved := Array.replicate 160 none
  statics := none }

def pool12 : Array CpInfo := pool [(8, .class_ 10), (1, u "java/util/SequencedCollection"), (15, .class_ 27), (0, u "java/lang/Object"), (0, .class_ 29), (0, u "java/util/Collection")] 27

/-- java/util/SequencedCollection -/
def k12 : Class := { plain "java/util/SequencedCollection" (some 0) with
  accessFlags := 1537
  interfaces := #[10]
  cf := some (fileOf pool12 8 #[] #[] 1537 26 #[28] #[])
  fields := #[]
  methods := #[]
  instanceTypes := #[]
  staticTypes := #[]
  resolved := Array.replicate 57 none
  statics := none }

def pool13 : Array CpInfo := pool [(8, .class_ 10), (1, u "java/util/List"), (92, .class_ 104), (0, u "java/lang/Object"), (15, .class_ 121), (0, u "java/util/SequencedCollection")] 129

/-- java/util/List -/
def k13 : Class := { plain "java/util/List" (some 0) with
  accessFlags := 1537
  interfaces := #[12]
  cf := some (fileOf pool13 8 #[] #[] 1537 103 #[120] #[])
  fields := #[]
  methods := #[]
  instanceTypes := #[]
  staticTypes := #[]
  resolved := Array.replicate 251 none
  statics := none }

def pool14 : Array CpInfo := pool [(1, .methodref 2 3), (0, .class_ 4), (0, .nameAndType 5 6), (0, u "java/util/AbstractCollection"), (0, u "<init>"), (0, u "()V"), (0, .fieldref 8 9), (0, .class_ 10), (0, .nameAndType 11 12), (0, u "java/util/AbstractList"), (0, u "modCount"), (0, u "I"), (64, .class_ 78), (0, u "java/util/AbstractList$Itr"), (3, .class_ 83), (0, u "java/util/AbstractList$ListItr"), (9, .class_ 94), (0, u "java/util/AbstractList$RandomAccessSubList"), (3, .class_ 99), (0, u "java/util/AbstractList$SubList"), (33, .class_ 134), (0, u "java/util/List"), (73, .class_ 209), (0, u "java/util/AbstractList$SubList$1"), (0, .class_ 211), (0, u "java/util/AbstractList$RandomAccessSpliterator")] 6

def k14c0 : Code := { maxStack := 2, maxLocals := 1, code := jdk_39_method_1_code, exceptionTable := #[], attributes := #[] }
def k14m0 : Method := { name := "<init>", desc := "()V", sig := { parameters := [], returnType := none }, accessFlags := 4, code := some k14c0 }
/-- java/util/AbstractList -/
def k14 : Class := { plain "java/util/AbstractList" (some 11) with
  accessFlags := 1057
  interfaces := #[13]
  cf := some (fileOf pool14 8 #[.nestMembers #[93, 98, 208, 210, 82, 77]] #[{ accessFlags := 4, nameIndex := 5, descriptorIndex := 6, attributes := #[] }] 1057 2 #[133] #[{ accessFlags := 132, nameIndex := 11, descriptorIndex := 12, attributes := #[] }])
  fields := #[{ name := "modCount", type := .int, accessFlags := 132, slot := 0, constantValue := 0 }]
  methods := #[k14m0]
  instanceTypes := #[.int]
  staticTypes := #[]
  resolved := Array.replicate 218 none
  statics := none }

def pool15 : Array CpInfo := pool [(1, .class_ 2), (0, u "java/util/RandomAccess"), (0, .class_ 4), (0, u "java/lang/Object")] 2

/-- java/util/RandomAccess -/
def k15 : Class := { plain "java/util/RandomAccess" (some 0) with
  accessFlags := 1537
  interfaces := #[]
  cf := some (fileOf pool15 1 #[] #[] 1537 3 #[] #[])
  fields := #[]
  methods := #[]
  instanceTypes := #[]
  staticTypes := #[]
  resolved := Array.replicate 7 none
  statics := none }

def pool16 : Array CpInfo := pool [(1, .class_ 2), (0, u "java/lang/Cloneable"), (0, .class_ 4), (0, u "java/lang/Object")] 2

/-- java/lang/Cloneable -/
def k16 : Class := { plain "java/lang/Cloneable" (some 0) with
  accessFlags := 1537
  interfaces := #[]
  cf := some (fileOf pool16 1 #[] #[] 1537 3 #[] #[])
  fields := #[]
  methods := #[]
  instanceTypes := #[]
  staticTypes := #[]
  resolved := Array.replicate 7 none
  statics := none }

def pool17 : Array CpInfo := pool [(1, .methodref 2 3), (0, .class_ 4), (0, .nameAndType 5 6), (0, u "java/util/AbstractList"), (0, u "<init>"), (0, u "()V"), (2, .fieldref 10 11), (0, .class_ 12), (0, .nameAndType 13 14), (0, u "java/util/ArrayList"), (0, u "elementData"), (0, u "[Ljava/lang/Object;"), (2, u "EMPTY_ELEMENTDATA"), (21, .fieldref 10 40), (0, .nameAndType 41 14), (0, u "DEFAULTCAPACITY_EMPTY_ELEMENTDATA"), (8, u "size"), (0, u "I"), (96, .class_ 149), (0, u "java/util/List"), (112, .class_ 263), (0, u "java/util/ArrayList$ListItr"), (3, .class_ 268), (0, u "java/util/ArrayList$Itr"), (7, .class_ 277), (0, u "java/util/ArrayList$SubList"), (12, .class_ 291), (0, u "java/util/ArrayList$ArrayListSpliterator"), (37, .class_ 330), (0, u "java/util/RandomAccess"), (0, .class_ 332), (0, u "java/lang/Cloneable"), (0, .class_ 334), (0, u "java/io/Serializable"), (0, u "serialVersionUID"), (0, u "J"), (3, u "DEFAULT_CAPACITY"), (159, .class_ 501), (0, u "java/util/ArrayList$SubList$2"), (0, .class_ 503), (0, u "java/util/ArrayList$SubList$1")] 5

def k17c0 : Code := { maxStack := 2, maxLocals := 1, code := jdk_38_method_2_code, exceptionTable := #[], attributes := #[] }
def k17m0 : Method := { name := "<init>", desc := "()V", sig := { parameters := [], returnType := none }, accessFlags := 1, code := some k17c0 }
/-- java/util/ArrayList -/
def k17 : Class := { plain "java/util/ArrayList" (some 14) with
  mirror := some 265
  accessFlags := 33
  interfaces := #[13, 15, 16, 2]
  cf := some (fileOf pool17 10 #[.nestMembers #[290, 276, 500, 502, 262, 267]] #[{ accessFlags := 1, nameIndex := 5, descriptorIndex := 6, attributes := #[] }] 33 2 #[148, 329, 331, 333] #[{ accessFlags := 26, nameIndex := 335, descriptorIndex := 336, attributes := #[] }, { accessFlags := 26, nameIndex := 340, descriptorIndex := 51, attributes := #[] }, { accessFlags := 26, nameIndex := 17, descriptorIndex := 14, attributes := #[] }, { accessFlags := 26, nameIndex := 41, descriptorIndex := 14, attributes := #[] }, { accessFlags := 128, nameIndex := 13, descriptorIndex := 14, attributes := #[] }, { accessFlags := 2, nameIndex := 50, descriptorIndex := 51, attributes := #[] }])
  fields := #[{ name := "serialVersionUID", type := .long, accessFlags := 26, slot := 0, constantValue := 0 }, { name := "DEFAULT_CAPACITY", type := .int, accessFlags := 26, slot := 1, constantValue := 0 }, { name := "EMPTY_ELEMENTDATA", type := (.array (.object "java/lang/Object")), accessFlags := 26, slot := 2, constantValue := 0 }, { name := "DEFAULTCAPACITY_EMPTY_ELEMENTDATA", type := (.array (.object "java/lang/Object")), accessFlags := 26, slot := 3, constantValue := 0 }, { name := "elementData", type := (.array (.object "java/lang/Object")), accessFlags := 128, slot := 1, constantValue := 0 }, { name := "size", type := .int, accessFlags := 2, slot := 2, constantValue := 0 }]
  methods := #[k17m0]
  instanceTypes := #[.int, (.array (.object "java/lang/Object")), .int]
  staticTypes := #[.long, .int, (.array (.object "java/lang/Object")), (.array (.object "java/lang/Object"))]
  resolved := Array.replicate 509 none
  statics := some 1 }

def pool18 : Array CpInfo := pool [(2, .class_ 4), (1, u "java/lang/CharSequence"), (42, .class_ 48), (0, u "java/lang/CharSequence$1CodePointIterator"), (10, .class_ 60), (0, u "java/lang/CharSequence$1CharIterator"), (5, .class_ 67), (0, u "java/lang/Object")] 63

/-- java/lang/CharSequence -/
def k18 : Class := { plain "java/lang/CharSequence" (some 0) with
  accessFlags := 1537
  interfaces := #[]
  cf := some (fileOf pool18 2 #[.nestMembers #[47, 59]] #[] 1537 66 #[] #[])
  fields := #[]
  methods := #[]
  instanceTypes := #[]
  staticTypes := #[]
  resolved := Array.replicate 131 none
  statics := none }

def pool19 : Array CpInfo := pool [(1, .methodref 2 3), (0, .class_ 4), (0, .nameAndType 5 6), (0, u "java/lang/Object"), (0, u "<init>"), (0, u "()V"), (2, .fieldref 10 11), (0, .class_ 12), (0, .nameAndType 13 14), (0, u "java/lang/String"), (0, u "value"), (0, u "[B"), (0, .fieldref 10 16), (0, .nameAndType 17 18), (0, u "coder"), (0, u "B"), (2, u "hash"), (0, u "I"), (2, u "hashIsZero"), (0, u "Z"), (11, .fieldref 10 39), (0, .nameAndType 40 26), (0, u "COMPACT_STRINGS"), (12, u "toBytes"), (53, .class_ 109), (1, u "java/lang/StringLatin1"), (99, .methodref 10 210), (0, .nameAndType 5 211), (0, u "([BB)V"), (157, u "(C)Z"), (205, .class_ 576), (0, u "java/lang/CharSequence"), (22, u "CASE_INSENSITIVE_ORDER"), (0, u "Ljava/util/Comparator;"), (181, u "valueOf"), (0, u "(C)Ljava/lang/String;"), (231, .methodref 107 1016), (0, .nameAndType 1017 369), (0, u "canEncode"), (0, .methodref 107 1019), (0, .nameAndType 53 1020), (0, u "(C)[B"), (80, u "serialPersistentFields"), (0, u "[Ljava/io/ObjectStreamField;"), (0, .class_ 1104), (0, u "java/lang/String$CaseInsensitiveComparator"), (1, .class_ 1107), (0, u "java/io/Serializable"), (0, .class_ 1109), (0, u "java/lang/Comparable"), (0, .class_ 1111), (0, u "java/lang/constant/Constable"), (0, .class_ 1113), (0, u "java/lang/constant/ConstantDesc"), (2, u "serialVersionUID"), (0, u "J"), (3, u "REPL"), (0, u "C"), (2, u "LATIN1"), (1, u "UTF16")] 323

def k19m0 : Method := { name := "<init>", desc := "()V", sig := { parameters := [], returnType := none }, accessFlags := 1, code := none }
def k19c1 : Code := { maxStack := 4, maxLocals := 1, code := jdk_42_method_139_code, exceptionTable := #[], attributes := #[] }
def k19m1 : Method := { name := "valueOf", desc := "(C)Ljava/lang/String;", sig := { parameters := [.char], returnType := some (.object "java/lang/String") }, accessFlags := 9, code := some k19c1 }
def k19c2 : Code := { maxStack := 2, maxLocals := 3, code := jdk_42_method_151_code, exceptionTable := #[], attributes := #[] }
def k19m2 : Method := { name := "<init>", desc := "([BB)V", sig := { parameters := [(.array .byte), .byte], returnType := none }, accessFlags := 0, code := some k19c2 }
/-- java/lang/String -/
def k19 : Class := { plain "java/lang/String" (some 0) with
  accessFlags := 49
  interfaces := #[2, 4, 18, 5, 6]
  cf := some (fileOf pool19 10 #[.nestMembers #[1103]] #[{ accessFlags := 1, nameIndex := 5, descriptorIndex := 6, attributes := #[] }, { accessFlags := 9, nameIndex := 782, descriptorIndex := 783, attributes := #[] }, { accessFlags := 0, nameIndex := 5, descriptorIndex := 211, attributes := #[] }] 49 2 #[1106, 1108, 575, 1110, 1112] #[{ accessFlags := 18, nameIndex := 13, descriptorIndex := 14, attributes := #[] }, { accessFlags := 18, nameIndex := 17, descriptorIndex := 18, attributes := #[] }, { accessFlags := 2, nameIndex := 21, descriptorIndex := 22, attributes := #[] }, { accessFlags := 2, nameIndex := 25, descriptorIndex := 26, attributes := #[] }, { accessFlags := 26, nameIndex := 1116, descriptorIndex := 1117, attributes := #[] }, { accessFlags := 24, nameIndex := 40, descriptorIndex := 26, attributes := #[] }, { accessFlags := 26, nameIndex := 1101, descriptorIndex := 1102, attributes := #[] }, { accessFlags := 26, nameIndex := 1121, descriptorIndex := 1122, attributes := #[] }, { accessFlags := 25, nameIndex := 599, descriptorIndex := 600, attributes := #[] }, { accessFlags := 24, nameIndex := 1125, descriptorIndex := 18, attributes := #[] }, { accessFlags := 24, nameIndex := 1127, descriptorIndex := 18, attributes := #[] }])
  fields := #[{ name := "value", type := (.array .byte), accessFlags := 18, slot := 0, constantValue := 0 }, { name := "coder", type := .byte, accessFlags := 18, slot := 1, constantValue := 0 }, { name := "hash", type := .int, accessFlags := 2, slot := 2, constantValue := 0 }, { name := "hashIsZero", type := .boolean, accessFlags := 2, slot := 3, constantValue := 0 }, { name := "serialVersionUID", type := .long, accessFlags := 26, slot := 0, constantValue := 0 }, { name := "COMPACT_STRINGS", type := .boolean, accessFlags := 24, slot := 1, constantValue := 0 }, { name := "serialPersistentFields", type := (.array (.object "java/io/ObjectStreamField")), accessFlags := 26, slot := 2, constantValue := 0 }, { name := "REPL", type := .char, accessFlags := 26, slot := 3, constantValue := 0 }, { name := "CASE_INSENSITIVE_ORDER", type := (.object "java/util/Comparator"), accessFlags := 25, slot := 4, constantValue := 0 }, { name := "LATIN1", type := .byte, accessFlags := 24, slot := 5, constantValue := 0 }, { name := "UTF16", type := .byte, accessFlags := 24, slot := 6, constantValue := 0 }]
  methods := #[k19m0, k19m1, k19m2]
  instanceTypes := #[(.array .byte), .byte, .int, .boolean]
  staticTypes := #[.long, .boolean, (.array (.object "java/io/ObjectStreamField")), .char, (.object "java/util/Comparator"), .byte, .byte]
  resolved := Array.replicate 1451 none
  statics := some 2 }

def pool20 : Array CpInfo := pool [(4, .class_ 6), (1, u "java/lang/Object"), (0, u "<init>"), (0, u "()V"), (5, .class_ 16), (1, u "java/lang/StringLatin1"), (73, u "canEncode"), (14, u "(C)Z"), (15, u "$assertionsDisabled"), (0, u "Z"), (98, .class_ 223), (1, u "java/lang/StringLatin1$LinesSpliterator"), (156, u "toBytes"), (1, u "(C)[B"), (7, .class_ 391), (0, u "java/lang/StringLatin1$CharsSpliterator")] 3

def k20m0 : Method := { name := "<init>", desc := "()V", sig := { parameters := [], returnType := none }, accessFlags := 0, code := none }
def k20c1 : Code := { maxStack := 2, maxLocals := 1, code := jdk_43_method_3_code, exceptionTable := #[], attributes := #[] }
def k20m1 : Method := { name := "canEncode", desc := "(C)Z", sig := { parameters := [.char], returnType := some .boolean }, accessFlags := 9, code := some k20c1 }
def k20c2 : Code := { maxStack := 4, maxLocals := 1, code := jdk_43_method_46_code, exceptionTable := #[], attributes := #[] }
def k20m2 : Method := { name := "toBytes", desc := "(C)[B", sig := { parameters := [.char], returnType := some (.array .byte) }, accessFlags := 9, code := some k20c2 }
/-- java/lang/StringLatin1 -/
def k20 : Class := { plain "java/lang/StringLatin1" (some 0) with
  accessFlags := 48
  interfaces := #[]
  cf := some (fileOf pool20 14 #[.nestMembers #[390, 221]] #[{ accessFlags := 0, nameIndex := 7, descriptorIndex := 8, attributes := #[] }, { accessFlags := 9, nameIndex := 90, descriptorIndex := 105, attributes := #[] }, { accessFlags := 9, nameIndex := 380, descriptorIndex := 382, attributes := #[] }] 48 4 #[] #[{ accessFlags := 4120, nameIndex := 121, descriptorIndex := 122, attributes := #[] }])
  fields := #[{ name := "$assertionsDisabled", type := .boolean, accessFlags := 4120, slot := 0, constantValue := 0 }]
  methods := #[k20m0, k20m1, k20m2]
  instanceTypes := #[]
  staticTypes := #[.boolean]
  resolved := Array.replicate 395 none
  statics := none }

def pool21 : Array CpInfo := pool [(1, .methodref 2 3), (0, .class_ 4), (0, .nameAndType 5 6), (0, u "java/lang/Object"), (0, u "<init>"), (0, u "()V"), (0, .fieldref 8 9), (0, .class_ 10), (0, .nameAndType 11 12), (0, u "com/example/conformance_check/conformancecheck/document/RationaleRow"), (0, u "number"), (0, u "Ljava/lang/Integer;"), (0, .fieldref 8 14), (0, .nameAndType 15 16), (0, u "index"), (0, u "I"), (0, .fieldref 8 18), (0, .nameAndType 19 16), (0, u "line"), (0, .fieldref 8 21), (0, .nameAndType 22 23), (0, u "component"), (0, u "Ljava/lang/String;"), (0, .methodref 25 26), (0, .class_ 27), (0, .nameAndType 28 29), (0, u "java/util/Collections"), (0, u "unmodifiableList"), (0, u "(Ljava/util/List;)Ljava/util/List;"), (0, .fieldref 8 31), (0, .nameAndType 32 33), (0, u "named"), (0, u "Ljava/util/List;"), (0, .fieldref 8 35), (0, .nameAndType 36 33), (0, u "dependencies"), (0, .fieldref 8 38), (0, .nameAndType 39 40), (0, u "givesReferences"), (0, u "Z"), (0, .methodref 42 43), (0, .class_ 44), (0, .nameAndType 45 46), (0, u "java/util/OptionalInt"), (0, u "empty"), (0, u "()Ljava/util/OptionalInt;"), (0, .methodref 48 49), (0, .class_ 50), (0, .nameAndType 51 52), (0, u "java/lang/Integer"), (0, u "intValue"), (0, u "()I"), (0, .methodref 42 54), (0, .nameAndType 55 56), (0, u "of"), (0, u "(I)Ljava/util/OptionalInt;"), (3, u "(Ljava/lang/Integer;IILjava/lang/String;Ljava/util/List;Ljava/util/List;Z)V")] 11

def k21c0 : Code := { maxStack := 2, maxLocals := 8, code := prog_55_method_1_code, exceptionTable := #[], attributes := #[] }
def k21m0 : Method := { name := "<init>", desc := "(Ljava/lang/Integer;IILjava/lang/String;Ljava/util/List;Ljava/util/List;Z)V", sig := { parameters := [(.object "java/lang/Integer"), .int, .int, (.object "java/lang/String"), (.object "java/util/List"), (.object "java/util/List"), .boolean], returnType := none }, accessFlags := 0, code := some k21c0 }
def k21c1 : Code := { maxStack := 1, maxLocals := 1, code := prog_55_method_2_code, exceptionTable := #[], attributes := #[] }
def k21m1 : Method := { name := "number", desc := "()Ljava/util/OptionalInt;", sig := { parameters := [], returnType := some (.object "java/util/OptionalInt") }, accessFlags := 1, code := some k21c1 }
/-- com/example/conformance_check/conformancecheck/document/RationaleRow -/
def k21 : Class := { plain "com/example/conformance_check/conformancecheck/document/RationaleRow" (some 0) with
  accessFlags := 33
  interfaces := #[]
  cf := some (fileOf pool21 8 #[] #[{ accessFlags := 0, nameIndex := 5, descriptorIndex := 60, attributes := #[] }, { accessFlags := 1, nameIndex := 11, descriptorIndex := 46, attributes := #[] }] 33 2 #[] #[{ accessFlags := 18, nameIndex := 11, descriptorIndex := 12, attributes := #[] }, { accessFlags := 18, nameIndex := 15, descriptorIndex := 16, attributes := #[] }, { accessFlags := 18, nameIndex := 19, descriptorIndex := 16, attributes := #[] }, { accessFlags := 18, nameIndex := 22, descriptorIndex := 23, attributes := #[] }, { accessFlags := 18, nameIndex := 32, descriptorIndex := 33, attributes := #[] }, { accessFlags := 18, nameIndex := 36, descriptorIndex := 33, attributes := #[] }, { accessFlags := 18, nameIndex := 39, descriptorIndex := 40, attributes := #[] }])
  fields := #[{ name := "number", type := (.object "java/lang/Integer"), accessFlags := 18, slot := 0, constantValue := 0 }, { name := "index", type := .int, accessFlags := 18, slot := 1, constantValue := 0 }, { name := "line", type := .int, accessFlags := 18, slot := 2, constantValue := 0 }, { name := "component", type := (.object "java/lang/String"), accessFlags := 18, slot := 3, constantValue := 0 }, { name := "named", type := (.object "java/util/List"), accessFlags := 18, slot := 4, constantValue := 0 }, { name := "dependencies", type := (.object "java/util/List"), accessFlags := 18, slot := 5, constantValue := 0 }, { name := "givesReferences", type := .boolean, accessFlags := 18, slot := 6, constantValue := 0 }]
  methods := #[k21m0, k21m1]
  instanceTypes := #[(.object "java/lang/Integer"), .int, .int, (.object "java/lang/String"), (.object "java/util/List"), (.object "java/util/List"), .boolean]
  staticTypes := #[]
  resolved := Array.replicate 72 none
  statics := none }

def pool22 : Array CpInfo := pool [(2, .class_ 4), (1, u "java/lang/Object"), (0, u "<init>"), (0, u "()V"), (1, .class_ 10), (1, u "java/util/List"), (2, .class_ 14), (0, u "java/util/RandomAccess"), (4, .class_ 20), (0, u "java/util/Collections"), (63, u "r"), (0, u "Ljava/util/Random;"), (67, u "(Ljava/util/List;)V"), (9, .nameAndType 164 165), (0, u "getClass"), (0, u "()Ljava/lang/Class;"), (0, .class_ 167), (0, u "java/util/Collections$UnmodifiableCollection"), (6, .class_ 175), (0, u "java/util/Collections$UnmodifiableSequencedCollection"), (6, .class_ 183), (0, u "java/util/Collections$UnmodifiableSet"), (6, .class_ 191), (0, u "java/util/Collections$UnmodifiableSequencedSet"), (6, .class_ 199), (0, u "java/util/Collections$UnmodifiableSortedSet"), (6, .class_ 207), (0, u "java/util/Collections$UnmodifiableNavigableSet"), (3, .interfaceMethodref 8 163), (0, .class_ 213), (0, u "java/util/Collections$UnmodifiableList"), (0, .interfaceMethodref 8 163), (0, .class_ 216), (0, u "java/util/Collections$UnmodifiableRandomAccessList"), (0, .methodref 215 218), (0, .nameAndType 5 153), (4, .class_ 224), (0, u "java/util/Collections$UnmodifiableMap"), (6, .class_ 232), (0, u "java/util/Collections$UnmodifiableSequencedMap"), (4, .class_ 238), (0, u "java/util/Collections$UnmodifiableSortedMap"), (6, .class_ 246), (0, u "java/util/Collections$UnmodifiableNavigableMap"), (3, .class_ 251), (0, u "java/util/Collections$SynchronizedCollection"), (4, .class_ 257), (0, u "java/util/Collections$SynchronizedSet"), (4, .class_ 263), (0, u "java/util/Collections$SynchronizedSortedSet"), (1, .class_ 266), (0, u "java/util/Collections$SynchronizedNavigableSet"), (1, .class_ 269), (0, u "java/util/Collections$SynchronizedRandomAccessList"), (1, .class_ 272), (0, u "java/util/Collections$SynchronizedList"), (5, .class_ 279), (0, u "java/util/Collections$SynchronizedMap"), (1, .class_ 282), (0, u "java/util/Collections$SynchronizedSortedMap"), (1, .class_ 285), (0, u "java/util/Collections$SynchronizedNavigableMap"), (1, .class_ 288), (0, u "java/util/Collections$CheckedCollection"), (11, .class_ 301), (0, u "java/util/Collections$CheckedQueue"), (3, .class_ 306), (0, u "java/util/Collections$CheckedSet"), (3, .class_ 311), (0, u "java/util/Collections$CheckedSortedSet"), (3, .class_ 316), (0, u "java/util/Collections$CheckedNavigableSet"), (3, .class_ 321), (0, u "java/util/Collections$CheckedRandomAccessList"), (3, .class_ 326), (0, u "java/util/Collections$CheckedList"), (1, .class_ 329), (0, u "java/util/Collections$CheckedMap"), (3, .class_ 334), (0, u "java/util/Collections$CheckedSortedMap"), (3, .class_ 339), (0, u "java/util/Collections$CheckedNavigableMap"), (4, .class_ 346), (1, u "java/util/Collections$EmptyIterator"), (3, .class_ 352), (1, u "java/util/Collections$EmptyListIterator"), (2, .class_ 357), (1, u "java/util/Collections$EmptyEnumeration"), (4, u "EMPTY_SET"), (0, u "Ljava/util/Set;"), (6, u "EMPTY_LIST"), (0, u "Ljava/util/List;"), (2, u "EMPTY_MAP"), (0, u "Ljava/util/Map;"), (4, .class_ 381), (0, u "java/util/Collections$SingletonSet"), (2, .class_ 385), (0, u "java/util/Collections$1"), (1, .class_ 388), (0, u "java/util/Collections$2"), (1, .class_ 391), (0, u "java/util/Collections$SingletonList"), (1, .class_ 394), (0, u "java/util/Collections$SingletonMap"), (22, .class_ 418), (0, u "java/util/Collections$CopiesList"), (4, .class_ 425), (1, u "java/util/Collections$ReverseComparator"), (8, .class_ 435), (0, u "java/util/Collections$ReverseComparator2"), (6, .class_ 443), (0, u "java/util/Collections$3"), (25, .class_ 470), (0, u "java/util/Collections$SetFromMap"), (2, .class_ 474), (0, u "java/util/Collections$SequencedSetFromMap"), (3, .class_ 479), (0, u "java/util/Collections$AsLIFOQueue"), (11, .class_ 492), (0, u "java/util/Collections$EmptySet"), (1, .class_ 495), (0, u "java/util/Collections$EmptyList"), (1, .class_ 498), (0, u "java/util/Collections$EmptyMap"), (1, u "BINARYSEARCH_THRESHOLD"), (0, u "I"), (2, u "REVERSE_THRESHOLD"), (1, u "SHUFFLE_THRESHOLD"), (1, u "FILL_THRESHOLD"), (1, u "ROTATE_THRESHOLD"), (1, u "COPY_THRESHOLD"), (1, u "REPLACEALL_THRESHOLD"), (1, u "INDEXOFSUBLIST_THRESHOLD"), (129, u "unmodifiableList"), (0, u "(Ljava/util/List;)Ljava/util/List;"), (202, .class_ 851), (0, u "java/util/Collections$CheckedMap$CheckedEntrySet"), (0, .class_ 853), (0, u "java/util/Collections$CheckedMap$CheckedEntrySet$CheckedEntry"), (0, .class_ 855), (0, u "java/util/Collections$CheckedMap$CheckedEntrySet$1"), (0, .class_ 857), (0, u "java/util/Collections$CheckedList$1"), (0, .class_ 859), (0, u "java/util/Collections$CheckedCollection$1"), (0, .class_ 861), (0, u "java/util/Collections$UnmodifiableNavigableMap$EmptyNavigableMap"), (0, .class_ 863), (0, u "java/util/Collections$UnmodifiableMap$UnmodifiableEntrySet"), (0, .class_ 865), (0, u "java/util/Collections$UnmodifiableMap$UnmodifiableEntrySet$UnmodifiableEntry"), (0, .class_ 867), (0, u "java/util/Collections$UnmodifiableMap$UnmodifiableEntrySet$UnmodifiableEntrySetSpliterator"), (0, .class_ 869), (0, u "java/util/Collections$UnmodifiableMap$UnmodifiableEntrySet$1"), (0, .class_ 871), (0, u "java/util/Collections$UnmodifiableList$1"), (0, .class_ 873), (0, u "java/util/Collections$UnmodifiableNavigableSet$EmptyNavigableSet"), (0, .class_ 875), (0, u "java/util/Collections$UnmodifiableCollection$1")] 57

def k22m0 : Method := { name := "<init>", desc := "()V", sig := { parameters := [], returnType := none }, accessFlags := 2, code := none }
def k22c1 : Code := { maxStack := 3, maxLocals := 1, code := jdk_79_method_35_code, exceptionTable := #[], attributes := #[] }
def k22m1 : Method := { name := "unmodifiableList", desc := "(Ljava/util/List;)Ljava/util/List;", sig := { parameters := [(.object "java/util/List")], returnType := some (.object "java/util/List") }, accessFlags := 9, code := some k22c1 }
/-- java/util/Collections -/
def k22 : Class := { plain "java/util/Collections" (some 0) with
  accessFlags := 33
  interfaces := #[]
  cf := some (fileOf pool22 19 #[.nestMembers #[478, 473, 469, 434, 423, 417, 393, 390, 380, 497, 494, 491, 355, 350, 344, 338, 333, 328, 850, 852, 854, 320, 325, 856, 315, 310, 305, 300, 287, 858, 284, 281, 278, 268, 271, 265, 262, 256, 250, 245, 860, 237, 231, 223, 862, 864, 866, 868, 215, 212, 870, 206, 872, 198, 190, 182, 174, 166, 874, 442, 387, 384]] #[{ accessFlags := 2, nameIndex := 5, descriptorIndex := 6, attributes := #[] }, { accessFlags := 9, nameIndex := 646, descriptorIndex := 647, attributes := #[] }] 33 2 #[] #[{ accessFlags := 26, nameIndex := 500, descriptorIndex := 501, attributes := #[] }, { accessFlags := 26, nameIndex := 504, descriptorIndex := 501, attributes := #[] }, { accessFlags := 26, nameIndex := 506, descriptorIndex := 501, attributes := #[] }, { accessFlags := 26, nameIndex := 508, descriptorIndex := 501, attributes := #[] }, { accessFlags := 26, nameIndex := 510, descriptorIndex := 501, attributes := #[] }, { accessFlags := 26, nameIndex := 512, descriptorIndex := 501, attributes := #[] }, { accessFlags := 26, nameIndex := 514, descriptorIndex := 501, attributes := #[] }, { accessFlags := 26, nameIndex := 516, descriptorIndex := 501, attributes := #[] }, { accessFlags := 10, nameIndex := 84, descriptorIndex := 85, attributes := #[] }, { accessFlags := 25, nameIndex := 362, descriptorIndex := 363, attributes := #[] }, { accessFlags := 25, nameIndex := 370, descriptorIndex := 371, attributes := #[] }, { accessFlags := 25, nameIndex := 374, descriptorIndex := 375, attributes := #[] }])
  fields := #[{ name := "BINARYSEARCH_THRESHOLD", type := .int, accessFlags := 26, slot := 0, constantValue := 0 }, { name := "REVERSE_THRESHOLD", type := .int, accessFlags := 26, slot := 1, constantValue := 0 }, { name := "SHUFFLE_THRESHOLD", type := .int, accessFlags := 26, slot := 2, constantValue := 0 }, { name := "FILL_THRESHOLD", type := .int, accessFlags := 26, slot := 3, constantValue := 0 }, { name := "ROTATE_THRESHOLD", type := .int, accessFlags := 26, slot := 4, constantValue := 0 }, { name := "COPY_THRESHOLD", type := .int, accessFlags := 26, slot := 5, constantValue := 0 }, { name := "REPLACEALL_THRESHOLD", type := .int, accessFlags := 26, slot := 6, constantValue := 0 }, { name := "INDEXOFSUBLIST_THRESHOLD", type := .int, accessFlags := 26, slot := 7, constantValue := 0 }, { name := "r", type := (.object "java/util/Random"), accessFlags := 10, slot := 8, constantValue := 0 }, { name := "EMPTY_SET", type := (.object "java/util/Set"), accessFlags := 25, slot := 9, constantValue := 0 }, { name := "EMPTY_LIST", type := (.object "java/util/List"), accessFlags := 25, slot := 10, constantValue := 0 }, { name := "EMPTY_MAP", type := (.object "java/util/Map"), accessFlags := 25, slot := 11, constantValue := 0 }]
  methods := #[k22m0, k22m1]
  instanceTypes := #[]
  staticTypes := #[.int, .int, .int, .int, .int, .int, .int, .int, (.object "java/util/Random"), (.object "java/util/Set"), (.object "java/util/List"), (.object "java/util/Map")]
  resolved := Array.replicate 933 none
  statics := none }

def pool23 : Array CpInfo := pool [(1, .methodref 2 3), (0, .class_ 4), (0, .nameAndType 5 6), (0, u "java/lang/Object"), (0, u "<init>"), (0, u "()V"), (3, .fieldref 11 12), (0, .class_ 13), (0, .nameAndType 14 15), (0, u "java/util/Collections$UnmodifiableCollection"), (0, u "c"), (0, u "Ljava/util/Collection;"), (1, .class_ 19), (1, u "java/util/Collection"), (51, .class_ 72), (0, u "java/io/Serializable"), (0, u "serialVersionUID"), (0, u "J"), (5, u "(Ljava/util/Collection;)V"), (51, .class_ 133), (0, u "java/util/Collections")] 2

def k23c0 : Code := { maxStack := 2, maxLocals := 2, code := jdk_119_method_1_code, exceptionTable := #[], attributes := #[] }
def k23m0 : Method := { name := "<init>", desc := "(Ljava/util/Collection;)V", sig := { parameters := [(.object "java/util/Collection")], returnType := none }, accessFlags := 0, code := some k23c0 }
/-- java/util/Collections$UnmodifiableCollection -/
def k23 : Class := { plain "java/util/Collections$UnmodifiableCollection" (some 0) with
  accessFlags := 32
  interfaces := #[10, 2]
  cf := some (fileOf pool23 11 #[.nestHost 132] #[{ accessFlags := 0, nameIndex := 5, descriptorIndex := 80, attributes := #[] }] 32 2 #[17, 71] #[{ accessFlags := 26, nameIndex := 73, descriptorIndex := 74, attributes := #[] }, { accessFlags := 16, nameIndex := 14, descriptorIndex := 15, attributes := #[] }])
  fields := #[{ name := "serialVersionUID", type := .long, accessFlags := 26, slot := 0, constantValue := 0 }, { name := "c", type := (.object "java/util/Collection"), accessFlags := 16, slot := 0, constantValue := 0 }]
  methods := #[k23m0]
  instanceTypes := #[(.object "java/util/Collection")]
  staticTypes := #[.long]
  resolved := Array.replicate 136 none
  statics := none }

def pool24 : Array CpInfo := pool [(1, .methodref 2 3), (0, .class_ 4), (0, .nameAndType 5 6), (0, u "java/util/Collections$UnmodifiableCollection"), (0, u "<init>"), (0, u "(Ljava/util/Collection;)V"), (0, .fieldref 8 9), (0, .class_ 10), (0, .nameAndType 11 12), (0, u "java/util/Collections$UnmodifiableList"), (0, u "list"), (0, u "Ljava/util/List;"), (1, .class_ 16), (1, u "java/util/List"), (37, u "(Ljava/util/List;)V"), (5, u "serialVersionUID"), (0, u "J"), (59, .class_ 122), (0, u "java/util/Collections")] 4

def k24c0 : Code := { maxStack := 2, maxLocals := 2, code := jdk_120_method_1_code, exceptionTable := #[], attributes := #[] }
def k24m0 : Method := { name := "<init>", desc := "(Ljava/util/List;)V", sig := { parameters := [(.object "java/util/List")], returnType := none }, accessFlags := 0, code := some k24c0 }
/-- java/util/Collections$UnmodifiableList -/
def k24 : Class := { plain "java/util/Collections$UnmodifiableList" (some 23) with
  mirror := some 266
  accessFlags := 32
  interfaces := #[13]
  cf := some (fileOf pool24 8 #[.nestHost 121] #[{ accessFlags := 0, nameIndex := 5, descriptorIndex := 54, attributes := #[] }] 32 2 #[14] #[{ accessFlags := 26, nameIndex := 60, descriptorIndex := 61, attributes := #[] }, { accessFlags := 16, nameIndex := 11, descriptorIndex := 12, attributes := #[] }])
  fields := #[{ name := "serialVersionUID", type := .long, accessFlags := 26, slot := 0, constantValue := 0 }, { name := "list", type := (.object "java/util/List"), accessFlags := 16, slot := 1, constantValue := 0 }]
  methods := #[k24m0]
  instanceTypes := #[(.object "java/util/Collection"), (.object "java/util/List")]
  staticTypes := #[.long]
  resolved := Array.replicate 127 none
  statics := none }

def pool25 : Array CpInfo := pool [(1, .methodref 2 3), (0, .class_ 4), (0, .nameAndType 5 6), (0, u "java/util/Collections$UnmodifiableList"), (0, u "<init>"), (0, u "(Ljava/util/List;)V"), (0, .class_ 8), (0, u "java/util/Collections$UnmodifiableRandomAccessList"), (11, .class_ 21), (0, u "java/util/RandomAccess"), (0, u "serialVersionUID"), (0, u "J"), (23, .class_ 48), (0, u "java/util/Collections")] 3

def k25c0 : Code := { maxStack := 2, maxLocals := 2, code := jdk_121_method_1_code, exceptionTable := #[], attributes := #[] }
def k25m0 : Method := { name := "<init>", desc := "(Ljava/util/List;)V", sig := { parameters := [(.object "java/util/List")], returnType := none }, accessFlags := 0, code := some k25c0 }
/-- java/util/Collections$UnmodifiableRandomAccessList -/
def k25 : Class := { plain "java/util/Collections$UnmodifiableRandomAccessList" (some 24) with
  mirror := some 267
  accessFlags := 32
  interfaces := #[15]
  cf := some (fileOf pool25 7 #[.nestHost 47] #[{ accessFlags := 0, nameIndex := 5, descriptorIndex := 6, attributes := #[] }] 32 2 #[20] #[{ accessFlags := 26, nameIndex := 22, descriptorIndex := 23, attributes := #[] }])
  fields := #[{ name := "serialVersionUID", type := .long, accessFlags := 26, slot := 0, constantValue := 0 }]
  methods := #[k25m0]
  instanceTypes := #[(.object "java/util/Collection"), (.object "java/util/List")]
  staticTypes := #[.long]
  resolved := Array.replicate 52 none
  statics := none }

def pool26 : Array CpInfo := pool [(1, .methodref 2 3), (0, .class_ 4), (0, .nameAndType 5 6), (0, u "java/lang/Object"), (0, u "<init>"), (0, u "()V"), (0, .fieldref 8 9), (0, .class_ 10), (0, .nameAndType 11 12), (0, u "java/util/OptionalInt"), (0, u "isPresent"), (0, u "Z"), (0, .fieldref 8 14), (0, .nameAndType 15 16), (0, u "value"), (0, u "I"), (0, .fieldref 8 18), (0, .nameAndType 19 20), (0, u "EMPTY"), (0, u "Ljava/util/OptionalInt;"), (0, .methodref 8 22), (0, .nameAndType 5 23), (0, u "(I)V"), (21, u "of"), (3, u "empty"), (5, u "getAsInt"), (0, u "()I"), (39, u "()Ljava/util/OptionalInt;"), (0, u "(I)Ljava/util/OptionalInt;"), (1, u "()Z")] 36

def k26m0 : Method := { name := "<init>", desc := "()V", sig := { parameters := [], returnType := none }, accessFlags := 2, code := none }
def k26c1 : Code := { maxStack := 1, maxLocals := 0, code := jdk_2649_method_2_code, exceptionTable := #[], attributes := #[] }
def k26m1 : Method := { name := "empty", desc := "()Ljava/util/OptionalInt;", sig := { parameters := [], returnType := some (.object "java/util/OptionalInt") }, accessFlags := 9, code := some k26c1 }
def k26c2 : Code := { maxStack := 2, maxLocals := 2, code := jdk_2649_method_3_code, exceptionTable := #[], attributes := #[] }
def k26m2 : Method := { name := "<init>", desc := "(I)V", sig := { parameters := [.int], returnType := none }, accessFlags := 2, code := some k26c2 }
def k26c3 : Code := { maxStack := 3, maxLocals := 1, code := jdk_2649_method_4_code, exceptionTable := #[], attributes := #[] }
def k26m3 : Method := { name := "of", desc := "(I)Ljava/util/OptionalInt;", sig := { parameters := [.int], returnType := some (.object "java/util/OptionalInt") }, accessFlags := 9, code := some k26c3 }
def k26c4 : Code := { maxStack := 3, maxLocals := 1, code := jdk_2649_method_5_code, exceptionTable := #[], attributes := #[] }
def k26m4 : Method := { name := "getAsInt", desc := "()I", sig := { parameters := [], returnType := some .int }, accessFlags := 1, code := some k26c4 }
def k26c5 : Code := { maxStack := 1, maxLocals := 1, code := jdk_2649_method_6_code, exceptionTable := #[], attributes := #[] }
def k26m5 : Method := { name := "isPresent", desc := "()Z", sig := { parameters := [], returnType := some .boolean }, accessFlags := 1, code := some k26c5 }
/-- java/util/OptionalInt -/
def k26 : Class := { plain "java/util/OptionalInt" (some 0) with
  accessFlags := 49
  interfaces := #[]
  cf := some (fileOf pool26 8 #[] #[{ accessFlags := 2, nameIndex := 5, descriptorIndex := 6, attributes := #[] }, { accessFlags := 9, nameIndex := 49, descriptorIndex := 96, attributes := #[] }, { accessFlags := 2, nameIndex := 5, descriptorIndex := 23, attributes := #[] }, { accessFlags := 9, nameIndex := 45, descriptorIndex := 97, attributes := #[] }, { accessFlags := 1, nameIndex := 55, descriptorIndex := 56, attributes := #[] }, { accessFlags := 1, nameIndex := 11, descriptorIndex := 99, attributes := #[] }] 49 2 #[] #[{ accessFlags := 26, nameIndex := 19, descriptorIndex := 20, attributes := #[] }, { accessFlags := 18, nameIndex := 11, descriptorIndex := 12, attributes := #[] }, { accessFlags := 18, nameIndex := 15, descriptorIndex := 16, attributes := #[] }])
  fields := #[{ name := "EMPTY", type := (.object "java/util/OptionalInt"), accessFlags := 26, slot := 0, constantValue := 0 }, { name := "isPresent", type := .boolean, accessFlags := 18, slot := 0, constantValue := 0 }, { name := "value", type := .int, accessFlags := 18, slot := 1, constantValue := 0 }]
  methods := #[k26m0, k26m1, k26m2, k26m3, k26m4, k26m5]
  instanceTypes := #[.boolean, .int]
  staticTypes := #[(.object "java/util/OptionalInt")]
  resolved := Array.replicate 136 none
  statics := some 3 }

def pool27 : Array CpInfo := pool [(2, .class_ 4), (1, u "java/lang/Object"), (0, u "<init>"), (0, u "()V"), (17, .class_ 26), (1, u "jdk/internal/util/Preconditions"), (28, .class_ 56), (0, u "jdk/internal/util/Preconditions$4"), (57, .class_ 115), (0, u "jdk/internal/util/Preconditions$1"), (7, u "SIOOBE_FORMATTER"), (0, u "Ljava/util/function/BiFunction;"), (0, .class_ 126), (0, u "jdk/internal/util/Preconditions$2"), (3, u "AIOOBE_FORMATTER"), (0, .class_ 132), (0, u "jdk/internal/util/Preconditions$3"), (3, u "IOOBE_FORMATTER")] 57

def k27m0 : Method := { name := "<init>", desc := "()V", sig := { parameters := [], returnType := none }, accessFlags := 1, code := none }
/-- jdk/internal/util/Preconditions -/
def k27 : Class := { plain "jdk/internal/util/Preconditions" (some 0) with
  accessFlags := 33
  interfaces := #[]
  cf := some (fileOf pool27 24 #[.nestMembers #[55, 131, 125, 114]] #[{ accessFlags := 1, nameIndex := 5, descriptorIndex := 6, attributes := #[] }] 33 2 #[] #[{ accessFlags := 25, nameIndex := 123, descriptorIndex := 124, attributes := #[] }, { accessFlags := 25, nameIndex := 130, descriptorIndex := 124, attributes := #[] }, { accessFlags := 25, nameIndex := 136, descriptorIndex := 124, attributes := #[] }])
  fields := #[{ name := "SIOOBE_FORMATTER", type := (.object "java/util/function/BiFunction"), accessFlags := 25, slot := 0, constantValue := 0 }, { name := "AIOOBE_FORMATTER", type := (.object "java/util/function/BiFunction"), accessFlags := 25, slot := 1, constantValue := 0 }, { name := "IOOBE_FORMATTER", type := (.object "java/util/function/BiFunction"), accessFlags := 25, slot := 2, constantValue := 0 }]
  methods := #[k27m0]
  instanceTypes := #[]
  staticTypes := #[(.object "java/util/function/BiFunction"), (.object "java/util/function/BiFunction"), (.object "java/util/function/BiFunction")]
  resolved := Array.replicate 194 none
  statics := some 4 }

def pool28 : Array CpInfo := pool [(9, u "<init>"), (6, .class_ 18), (1, u "java/lang/Object"), (0, u "()V"), (1, .class_ 23), (1, u "jdk/internal/util/ArraysSupport"), (0, u "LOG2_ARRAY_LONG_INDEX_SCALE"), (0, u "I"), (2, u "U"), (0, u "Ljdk/internal/misc/Unsafe;"), (8, u "BIG_ENDIAN"), (0, u "Z"), (8, u "LOG2_BYTE_BIT_SIZE"), (4, u "LOG2_ARRAY_INT_INDEX_SCALE"), (54, u "JLA"), (0, u "Ljdk/internal/access/JavaLangAccess;"), (11, u "LOG2_ARRAY_BOOLEAN_INDEX_SCALE"), (9, u "LOG2_ARRAY_BYTE_INDEX_SCALE"), (5, u "LOG2_ARRAY_CHAR_INDEX_SCALE"), (5, u "LOG2_ARRAY_SHORT_INDEX_SCALE"), (18, u "LOG2_ARRAY_FLOAT_INDEX_SCALE"), (24, u "LOG2_ARRAY_DOUBLE_INDEX_SCALE"), (89, u "T_BOOLEAN"), (2, u "T_CHAR"), (1, u "T_FLOAT"), (1, u "T_DOUBLE"), (1, u "T_BYTE"), (1, u "T_SHORT"), (1, u "T_INT"), (1, u "T_LONG"), (1, u "SOFT_MAX_ARRAY_LENGTH")] 83

def k28m0 : Method := { name := "<init>", desc := "()V", sig := { parameters := [], returnType := none }, accessFlags := 2, code := none }
/-- jdk/internal/util/ArraysSupport -/
def k28 : Class := { plain "jdk/internal/util/ArraysSupport" (some 0) with
  accessFlags := 33
  interfaces := #[]
  cf := some (fileOf pool28 21 #[] #[{ accessFlags := 2, nameIndex := 9, descriptorIndex := 19, attributes := #[] }] 33 16 #[] #[{ accessFlags := 24, nameIndex := 28, descriptorIndex := 29, attributes := #[] }, { accessFlags := 26, nameIndex := 38, descriptorIndex := 39, attributes := #[] }, { accessFlags := 25, nameIndex := 121, descriptorIndex := 25, attributes := #[] }, { accessFlags := 25, nameIndex := 131, descriptorIndex := 25, attributes := #[] }, { accessFlags := 25, nameIndex := 137, descriptorIndex := 25, attributes := #[] }, { accessFlags := 25, nameIndex := 143, descriptorIndex := 25, attributes := #[] }, { accessFlags := 25, nameIndex := 53, descriptorIndex := 25, attributes := #[] }, { accessFlags := 25, nameIndex := 24, descriptorIndex := 25, attributes := #[] }, { accessFlags := 25, nameIndex := 162, descriptorIndex := 25, attributes := #[] }, { accessFlags := 25, nameIndex := 187, descriptorIndex := 25, attributes := #[] }, { accessFlags := 26, nameIndex := 48, descriptorIndex := 25, attributes := #[] }, { accessFlags := 25, nameIndex := 277, descriptorIndex := 25, attributes := #[] }, { accessFlags := 25, nameIndex := 280, descriptorIndex := 25, attributes := #[] }, { accessFlags := 25, nameIndex := 282, descriptorIndex := 25, attributes := #[] }, { accessFlags := 25, nameIndex := 284, descriptorIndex := 25, attributes := #[] }, { accessFlags := 25, nameIndex := 286, descriptorIndex := 25, attributes := #[] }, { accessFlags := 25, nameIndex := 288, descriptorIndex := 25, attributes := #[] }, { accessFlags := 25, nameIndex := 290, descriptorIndex := 25, attributes := #[] }, { accessFlags := 25, nameIndex := 292, descriptorIndex := 25, attributes := #[] }, { accessFlags := 26, nameIndex := 108, descriptorIndex := 109, attributes := #[] }, { accessFlags := 25, nameIndex := 294, descriptorIndex := 25, attributes := #[] }])
  fields := #[{ name := "U", type := (.object "jdk/internal/misc/Unsafe"), accessFlags := 24, slot := 0, constantValue := 0 }, { name := "BIG_ENDIAN", type := .boolean, accessFlags := 26, slot := 1, constantValue := 0 }, { name := "LOG2_ARRAY_BOOLEAN_INDEX_SCALE", type := .int, accessFlags := 25, slot := 2, constantValue := 0 }, { name := "LOG2_ARRAY_BYTE_INDEX_SCALE", type := .int, accessFlags := 25, slot := 3, constantValue := 0 }, { name := "LOG2_ARRAY_CHAR_INDEX_SCALE", type := .int, accessFlags := 25, slot := 4, constantValue := 0 }, { name := "LOG2_ARRAY_SHORT_INDEX_SCALE", type := .int, accessFlags := 25, slot := 5, constantValue := 0 }, { name := "LOG2_ARRAY_INT_INDEX_SCALE", type := .int, accessFlags := 25, slot := 6, constantValue := 0 }, { name := "LOG2_ARRAY_LONG_INDEX_SCALE", type := .int, accessFlags := 25, slot := 7, constantValue := 0 }, { name := "LOG2_ARRAY_FLOAT_INDEX_SCALE", type := .int, accessFlags := 25, slot := 8, constantValue := 0 }, { name := "LOG2_ARRAY_DOUBLE_INDEX_SCALE", type := .int, accessFlags := 25, slot := 9, constantValue := 0 }, { name := "LOG2_BYTE_BIT_SIZE", type := .int, accessFlags := 26, slot := 10, constantValue := 0 }, { name := "T_BOOLEAN", type := .int, accessFlags := 25, slot := 11, constantValue := 0 }, { name := "T_CHAR", type := .int, accessFlags := 25, slot := 12, constantValue := 0 }, { name := "T_FLOAT", type := .int, accessFlags := 25, slot := 13, constantValue := 0 }, { name := "T_DOUBLE", type := .int, accessFlags := 25, slot := 14, constantValue := 0 }, { name := "T_BYTE", type := .int, accessFlags := 25, slot := 15, constantValue := 0 }, { name := "T_SHORT", type := .int, accessFlags := 25, slot := 16, constantValue := 0 }, { name := "T_INT", type := .int, accessFlags := 25, slot := 17, constantValue := 0 }, { name := "T_LONG", type := .int, accessFlags := 25, slot := 18, constantValue := 0 }, { name := "JLA", type := (.object "jdk/internal/access/JavaLangAccess"), accessFlags := 26, slot := 19, constantValue := 0 }, { name := "SOFT_MAX_ARRAY_LENGTH", type := .int, accessFlags := 25, slot := 20, constantValue := 0 }]
  methods := #[k28m0]
  instanceTypes := #[]
  staticTypes := #[(.object "jdk/internal/misc/Unsafe"), .boolean, .int, .int, .int, .int, .int, .int, .int, .int, .int, .int, .int, .int, .int, .int, .int, .int, .int, (.object "jdk/internal/access/JavaLangAccess"), .int]
  resolved := Array.replicate 378 none
  statics := none }

/-- the primitive byte -/
def k29 : Class := { plain "byte" none with kind := .primitive 'B', accessFlags := 0x411 }
/-- [B -/
def k30 : Class := { plain "[B" (some 0) with kind := .array 29 .byte, interfaces := #[16, 2], accessFlags := 1041 }

/-- the primitive int -/
def k31 : Class := { plain "int" none with kind := .primitive 'I', accessFlags := 0x411 }
/-- [I -/
def k32 : Class := { plain "[I" (some 0) with kind := .array 31 .int, interfaces := #[16, 2], accessFlags := 1041 }

/-- [Ljava/lang/Integer; -/
def k33 : Class := { plain "[Ljava/lang/Integer;" (some 0) with kind := .array 7 (.object "java/lang/Integer"), interfaces := #[16, 2], accessFlags := 1041 }

/-- [Ljava/lang/Object; -/
def k34 : Class := { plain "[Ljava/lang/Object;" (some 0) with kind := .array 0 (.object "java/lang/Object"), interfaces := #[16, 2], accessFlags := 1041 }

def heap : Heap := #[{ cls := 8, slots := #[.int 0, .int 127, .ref 5, .null, .int 0], vm := .statics 8 },
  { cls := 17, slots := #[.long 0, .int 0, .ref 262, .ref 263], vm := .statics 17 },
  { cls := 19, slots := #[.long 0, .int 1, .null, .int 0, .null, .int 0, .int 0], vm := .statics 19 },
  { cls := 26, slots := #[.ref 264], vm := .statics 26 },
  { cls := 27, slots := #[.null, .null, .null], vm := .statics 27 },
  { cls := 33, slots := #[.ref 6, .ref 7, .ref 8, .ref 9, .ref 10, .ref 11, .ref 12, .ref 13, .ref 14, .ref 15, .ref 16, .ref 17, .ref 18, .ref 19, .ref 20, .ref 21, .ref 22, .ref 23, .ref 24, .ref 25, .ref 26, .ref 27, .ref 28, .ref 29, .ref 30, .ref 31, .ref 32, .ref 33, .ref 34, .ref 35, .ref 36, .ref 37, .ref 38, .ref 39, .ref 40, .ref 41, .ref 42, .ref 43, .ref 44, .ref 45, .ref 46, .ref 47, .ref 48, .ref 49, .ref 50, .ref 51, .ref 52, .ref 53, .ref 54, .ref 55, .ref 56, .ref 57, .ref 58, .ref 59, .ref 60, .ref 61, .ref 62, .ref 63, .ref 64, .ref 65, .ref 66, .ref 67, .ref 68, .ref 69, .ref 70, .ref 71, .ref 72, .ref 73, .ref 74, .ref 75, .ref 76, .ref 77, .ref 78, .ref 79, .ref 80, .ref 81, .ref 82, .ref 83, .ref 84, .ref 85, .ref 86, .ref 87, .ref 88, .ref 89, .ref 90, .ref 91, .ref 92, .ref 93, .ref 94, .ref 95, .ref 96, .ref 97, .ref 98, .ref 99, .ref 100, .ref 101, .ref 102, .ref 103, .ref 104, .ref 105, .ref 106, .ref 107, .ref 108, .ref 109, .ref 110, .ref 111, .ref 112, .ref 113, .ref 114, .ref 115, .ref 116, .ref 117, .ref 118, .ref 119, .ref 120, .ref 121, .ref 122, .ref 123, .ref 124, .ref 125, .ref 126, .ref 127, .ref 128, .ref 129, .ref 130, .ref 131, .ref 132, .ref 133, .ref 134, .ref 135, .ref 136, .ref 137, .ref 138, .ref 139, .ref 140, .ref 141, .ref 142, .ref 143, .ref 144, .ref 145, .ref 146, .ref 147, .ref 148, .ref 149, .ref 150, .ref 151, .ref 152, .ref 153, .ref 154, .ref 155, .ref 156, .ref 157, .ref 158, .ref 159, .ref 160, .ref 161, .ref 162, .ref 163, .ref 164, .ref 165, .ref 166, .ref 167, .ref 168, .ref 169, .ref 170, .ref 171, .ref 172, .ref 173, .ref 174, .ref 175, .ref 176, .ref 177, .ref 178, .ref 179, .ref 180, .ref 181, .ref 182, .ref 183, .ref 184, .ref 185, .ref 186, .ref 187, .ref 188, .ref 189, .ref 190, .ref 191, .ref 192, .ref 193, .ref 194, .ref 195, .ref 196, .ref 197, .ref 198, .ref 199, .ref 200, .ref 201, .ref 202, .ref 203, .ref 204, .ref 205, .ref 206, .ref 207, .ref 208, .ref 209, .ref 210, .ref 211, .ref 212, .ref 213, .ref 214, .ref 215, .ref 216, .ref 217, .ref 218, .ref 219, .ref 220, .ref 221, .ref 222, .ref 223, .ref 224, .ref 225, .ref 226, .ref 227, .ref 228, .ref 229, .ref 230, .ref 231, .ref 232, .ref 233, .ref 234, .ref 235, .ref 236, .ref 237, .ref 238, .ref 239, .ref 240, .ref 241, .ref 242, .ref 243, .ref 244, .ref 245, .ref 246, .ref 247, .ref 248, .ref 249, .ref 250, .ref 251, .ref 252, .ref 253, .ref 254, .ref 255, .ref 256, .ref 257, .ref 258, .ref 259, .ref 260, .ref 261], vm := .none },
  { cls := 7, slots := #[.int (-128)], vm := .none },
  { cls := 7, slots := #[.int (-127)], vm := .none },
  { cls := 7, slots := #[.int (-126)], vm := .none },
  { cls := 7, slots := #[.int (-125)], vm := .none },
  { cls := 7, slots := #[.int (-124)], vm := .none },
  { cls := 7, slots := #[.int (-123)], vm := .none },
  { cls := 7, slots := #[.int (-122)], vm := .none },
  { cls := 7, slots := #[.int (-121)], vm := .none },
  { cls := 7, slots := #[.int (-120)], vm := .none },
  { cls := 7, slots := #[.int (-119)], vm := .none },
  { cls := 7, slots := #[.int (-118)], vm := .none },
  { cls := 7, slots := #[.int (-117)], vm := .none },
  { cls := 7, slots := #[.int (-116)], vm := .none },
  { cls := 7, slots := #[.int (-115)], vm := .none },
  { cls := 7, slots := #[.int (-114)], vm := .none },
  { cls := 7, slots := #[.int (-113)], vm := .none },
  { cls := 7, slots := #[.int (-112)], vm := .none },
  { cls := 7, slots := #[.int (-111)], vm := .none },
  { cls := 7, slots := #[.int (-110)], vm := .none },
  { cls := 7, slots := #[.int (-109)], vm := .none },
  { cls := 7, slots := #[.int (-108)], vm := .none },
  { cls := 7, slots := #[.int (-107)], vm := .none },
  { cls := 7, slots := #[.int (-106)], vm := .none },
  { cls := 7, slots := #[.int (-105)], vm := .none },
  { cls := 7, slots := #[.int (-104)], vm := .none },
  { cls := 7, slots := #[.int (-103)], vm := .none },
  { cls := 7, slots := #[.int (-102)], vm := .none },
  { cls := 7, slots := #[.int (-101)], vm := .none },
  { cls := 7, slots := #[.int (-100)], vm := .none },
  { cls := 7, slots := #[.int (-99)], vm := .none },
  { cls := 7, slots := #[.int (-98)], vm := .none },
  { cls := 7, slots := #[.int (-97)], vm := .none },
  { cls := 7, slots := #[.int (-96)], vm := .none },
  { cls := 7, slots := #[.int (-95)], vm := .none },
  { cls := 7, slots := #[.int (-94)], vm := .none },
  { cls := 7, slots := #[.int (-93)], vm := .none },
  { cls := 7, slots := #[.int (-92)], vm := .none },
  { cls := 7, slots := #[.int (-91)], vm := .none },
  { cls := 7, slots := #[.int (-90)], vm := .none },
  { cls := 7, slots := #[.int (-89)], vm := .none },
  { cls := 7, slots := #[.int (-88)], vm := .none },
  { cls := 7, slots := #[.int (-87)], vm := .none },
  { cls := 7, slots := #[.int (-86)], vm := .none },
  { cls := 7, slots := #[.int (-85)], vm := .none },
  { cls := 7, slots := #[.int (-84)], vm := .none },
  { cls := 7, slots := #[.int (-83)], vm := .none },
  { cls := 7, slots := #[.int (-82)], vm := .none },
  { cls := 7, slots := #[.int (-81)], vm := .none },
  { cls := 7, slots := #[.int (-80)], vm := .none },
  { cls := 7, slots := #[.int (-79)], vm := .none },
  { cls := 7, slots := #[.int (-78)], vm := .none },
  { cls := 7, slots := #[.int (-77)], vm := .none },
  { cls := 7, slots := #[.int (-76)], vm := .none },
  { cls := 7, slots := #[.int (-75)], vm := .none },
  { cls := 7, slots := #[.int (-74)], vm := .none },
  { cls := 7, slots := #[.int (-73)], vm := .none },
  { cls := 7, slots := #[.int (-72)], vm := .none },
  { cls := 7, slots := #[.int (-71)], vm := .none },
  { cls := 7, slots := #[.int (-70)], vm := .none },
  { cls := 7, slots := #[.int (-69)], vm := .none },
  { cls := 7, slots := #[.int (-68)], vm := .none },
  { cls := 7, slots := #[.int (-67)], vm := .none },
  { cls := 7, slots := #[.int (-66)], vm := .none },
  { cls := 7, slots := #[.int (-65)], vm := .none },
  { cls := 7, slots := #[.int (-64)], vm := .none },
  { cls := 7, slots := #[.int (-63)], vm := .none },
  { cls := 7, slots := #[.int (-62)], vm := .none },
  { cls := 7, slots := #[.int (-61)], vm := .none },
  { cls := 7, slots := #[.int (-60)], vm := .none },
  { cls := 7, slots := #[.int (-59)], vm := .none },
  { cls := 7, slots := #[.int (-58)], vm := .none },
  { cls := 7, slots := #[.int (-57)], vm := .none },
  { cls := 7, slots := #[.int (-56)], vm := .none },
  { cls := 7, slots := #[.int (-55)], vm := .none },
  { cls := 7, slots := #[.int (-54)], vm := .none },
  { cls := 7, slots := #[.int (-53)], vm := .none },
  { cls := 7, slots := #[.int (-52)], vm := .none },
  { cls := 7, slots := #[.int (-51)], vm := .none },
  { cls := 7, slots := #[.int (-50)], vm := .none },
  { cls := 7, slots := #[.int (-49)], vm := .none },
  { cls := 7, slots := #[.int (-48)], vm := .none },
  { cls := 7, slots := #[.int (-47)], vm := .none },
  { cls := 7, slots := #[.int (-46)], vm := .none },
  { cls := 7, slots := #[.int (-45)], vm := .none },
  { cls := 7, slots := #[.int (-44)], vm := .none },
  { cls := 7, slots := #[.int (-43)], vm := .none },
  { cls := 7, slots := #[.int (-42)], vm := .none },
  { cls := 7, slots := #[.int (-41)], vm := .none },
  { cls := 7, slots := #[.int (-40)], vm := .none },
  { cls := 7, slots := #[.int (-39)], vm := .none },
  { cls := 7, slots := #[.int (-38)], vm := .none },
  { cls := 7, slots := #[.int (-37)], vm := .none },
  { cls := 7, slots := #[.int (-36)], vm := .none },
  { cls := 7, slots := #[.int (-35)], vm := .none },
  { cls := 7, slots := #[.int (-34)], vm := .none },
  { cls := 7, slots := #[.int (-33)], vm := .none },
  { cls := 7, slots := #[.int (-32)], vm := .none },
  { cls := 7, slots := #[.int (-31)], vm := .none },
  { cls := 7, slots := #[.int (-30)], vm := .none },
  { cls := 7, slots := #[.int (-29)], vm := .none },
  { cls := 7, slots := #[.int (-28)], vm := .none },
  { cls := 7, slots := #[.int (-27)], vm := .none },
  { cls := 7, slots := #[.int (-26)], vm := .none },
  { cls := 7, slots := #[.int (-25)], vm := .none },
  { cls := 7, slots := #[.int (-24)], vm := .none },
  { cls := 7, slots := #[.int (-23)], vm := .none },
  { cls := 7, slots := #[.int (-22)], vm := .none },
  { cls := 7, slots := #[.int (-21)], vm := .none },
  { cls := 7, slots := #[.int (-20)], vm := .none },
  { cls := 7, slots := #[.int (-19)], vm := .none },
  { cls := 7, slots := #[.int (-18)], vm := .none },
  { cls := 7, slots := #[.int (-17)], vm := .none },
  { cls := 7, slots := #[.int (-16)], vm := .none },
  { cls := 7, slots := #[.int (-15)], vm := .none },
  { cls := 7, slots := #[.int (-14)], vm := .none },
  { cls := 7, slots := #[.int (-13)], vm := .none },
  { cls := 7, slots := #[.int (-12)], vm := .none },
  { cls := 7, slots := #[.int (-11)], vm := .none },
  { cls := 7, slots := #[.int (-10)], vm := .none },
  { cls := 7, slots := #[.int (-9)], vm := .none },
  { cls := 7, slots := #[.int (-8)], vm := .none },
  { cls := 7, slots := #[.int (-7)], vm := .none },
  { cls := 7, slots := #[.int (-6)], vm := .none },
  { cls := 7, slots := #[.int (-5)], vm := .none },
  { cls := 7, slots := #[.int (-4)], vm := .none },
  { cls := 7, slots := #[.int (-3)], vm := .none },
  { cls := 7, slots := #[.int (-2)], vm := .none },
  { cls := 7, slots := #[.int (-1)], vm := .none },
  { cls := 7, slots := #[.int (0)], vm := .none },
  { cls := 7, slots := #[.int (1)], vm := .none },
  { cls := 7, slots := #[.int (2)], vm := .none },
  { cls := 7, slots := #[.int (3)], vm := .none },
  { cls := 7, slots := #[.int (4)], vm := .none },
  { cls := 7, slots := #[.int (5)], vm := .none },
  { cls := 7, slots := #[.int (6)], vm := .none },
  { cls := 7, slots := #[.int (7)], vm := .none },
  { cls := 7, slots := #[.int (8)], vm := .none },
  { cls := 7, slots := #[.int (9)], vm := .none },
  { cls := 7, slots := #[.int (10)], vm := .none },
  { cls := 7, slots := #[.int (11)], vm := .none },
  { cls := 7, slots := #[.int (12)], vm := .none },
  { cls := 7, slots := #[.int (13)], vm := .none },
  { cls := 7, slots := #[.int (14)], vm := .none },
  { cls := 7, slots := #[.int (15)], vm := .none },
  { cls := 7, slots := #[.int (16)], vm := .none },
  { cls := 7, slots := #[.int (17)], vm := .none },
  { cls := 7, slots := #[.int (18)], vm := .none },
  { cls := 7, slots := #[.int (19)], vm := .none },
  { cls := 7, slots := #[.int (20)], vm := .none },
  { cls := 7, slots := #[.int (21)], vm := .none },
  { cls := 7, slots := #[.int (22)], vm := .none },
  { cls := 7, slots := #[.int (23)], vm := .none },
  { cls := 7, slots := #[.int (24)], vm := .none },
  { cls := 7, slots := #[.int (25)], vm := .none },
  { cls := 7, slots := #[.int (26)], vm := .none },
  { cls := 7, slots := #[.int (27)], vm := .none },
  { cls := 7, slots := #[.int (28)], vm := .none },
  { cls := 7, slots := #[.int (29)], vm := .none },
  { cls := 7, slots := #[.int (30)], vm := .none },
  { cls := 7, slots := #[.int (31)], vm := .none },
  { cls := 7, slots := #[.int (32)], vm := .none },
  { cls := 7, slots := #[.int (33)], vm := .none },
  { cls := 7, slots := #[.int (34)], vm := .none },
  { cls := 7, slots := #[.int (35)], vm := .none },
  { cls := 7, slots := #[.int (36)], vm := .none },
  { cls := 7, slots := #[.int (37)], vm := .none },
  { cls := 7, slots := #[.int (38)], vm := .none },
  { cls := 7, slots := #[.int (39)], vm := .none },
  { cls := 7, slots := #[.int (40)], vm := .none },
  { cls := 7, slots := #[.int (41)], vm := .none },
  { cls := 7, slots := #[.int (42)], vm := .none },
  { cls := 7, slots := #[.int (43)], vm := .none },
  { cls := 7, slots := #[.int (44)], vm := .none },
  { cls := 7, slots := #[.int (45)], vm := .none },
  { cls := 7, slots := #[.int (46)], vm := .none },
  { cls := 7, slots := #[.int (47)], vm := .none },
  { cls := 7, slots := #[.int (48)], vm := .none },
  { cls := 7, slots := #[.int (49)], vm := .none },
  { cls := 7, slots := #[.int (50)], vm := .none },
  { cls := 7, slots := #[.int (51)], vm := .none },
  { cls := 7, slots := #[.int (52)], vm := .none },
  { cls := 7, slots := #[.int (53)], vm := .none },
  { cls := 7, slots := #[.int (54)], vm := .none },
  { cls := 7, slots := #[.int (55)], vm := .none },
  { cls := 7, slots := #[.int (56)], vm := .none },
  { cls := 7, slots := #[.int (57)], vm := .none },
  { cls := 7, slots := #[.int (58)], vm := .none },
  { cls := 7, slots := #[.int (59)], vm := .none },
  { cls := 7, slots := #[.int (60)], vm := .none },
  { cls := 7, slots := #[.int (61)], vm := .none },
  { cls := 7, slots := #[.int (62)], vm := .none },
  { cls := 7, slots := #[.int (63)], vm := .none },
  { cls := 7, slots := #[.int (64)], vm := .none },
  { cls := 7, slots := #[.int (65)], vm := .none },
  { cls := 7, slots := #[.int (66)], vm := .none },
  { cls := 7, slots := #[.int (67)], vm := .none },
  { cls := 7, slots := #[.int (68)], vm := .none },
  { cls := 7, slots := #[.int (69)], vm := .none },
  { cls := 7, slots := #[.int (70)], vm := .none },
  { cls := 7, slots := #[.int (71)], vm := .none },
  { cls := 7, slots := #[.int (72)], vm := .none },
  { cls := 7, slots := #[.int (73)], vm := .none },
  { cls := 7, slots := #[.int (74)], vm := .none },
  { cls := 7, slots := #[.int (75)], vm := .none },
  { cls := 7, slots := #[.int (76)], vm := .none },
  { cls := 7, slots := #[.int (77)], vm := .none },
  { cls := 7, slots := #[.int (78)], vm := .none },
  { cls := 7, slots := #[.int (79)], vm := .none },
  { cls := 7, slots := #[.int (80)], vm := .none },
  { cls := 7, slots := #[.int (81)], vm := .none },
  { cls := 7, slots := #[.int (82)], vm := .none },
  { cls := 7, slots := #[.int (83)], vm := .none },
  { cls := 7, slots := #[.int (84)], vm := .none },
  { cls := 7, slots := #[.int (85)], vm := .none },
  { cls := 7, slots := #[.int (86)], vm := .none },
  { cls := 7, slots := #[.int (87)], vm := .none },
  { cls := 7, slots := #[.int (88)], vm := .none },
  { cls := 7, slots := #[.int (89)], vm := .none },
  { cls := 7, slots := #[.int (90)], vm := .none },
  { cls := 7, slots := #[.int (91)], vm := .none },
  { cls := 7, slots := #[.int (92)], vm := .none },
  { cls := 7, slots := #[.int (93)], vm := .none },
  { cls := 7, slots := #[.int (94)], vm := .none },
  { cls := 7, slots := #[.int (95)], vm := .none },
  { cls := 7, slots := #[.int (96)], vm := .none },
  { cls := 7, slots := #[.int (97)], vm := .none },
  { cls := 7, slots := #[.int (98)], vm := .none },
  { cls := 7, slots := #[.int (99)], vm := .none },
  { cls := 7, slots := #[.int (100)], vm := .none },
  { cls := 7, slots := #[.int (101)], vm := .none },
  { cls := 7, slots := #[.int (102)], vm := .none },
  { cls := 7, slots := #[.int (103)], vm := .none },
  { cls := 7, slots := #[.int (104)], vm := .none },
  { cls := 7, slots := #[.int (105)], vm := .none },
  { cls := 7, slots := #[.int (106)], vm := .none },
  { cls := 7, slots := #[.int (107)], vm := .none },
  { cls := 7, slots := #[.int (108)], vm := .none },
  { cls := 7, slots := #[.int (109)], vm := .none },
  { cls := 7, slots := #[.int (110)], vm := .none },
  { cls := 7, slots := #[.int (111)], vm := .none },
  { cls := 7, slots := #[.int (112)], vm := .none },
  { cls := 7, slots := #[.int (113)], vm := .none },
  { cls := 7, slots := #[.int (114)], vm := .none },
  { cls := 7, slots := #[.int (115)], vm := .none },
  { cls := 7, slots := #[.int (116)], vm := .none },
  { cls := 7, slots := #[.int (117)], vm := .none },
  { cls := 7, slots := #[.int (118)], vm := .none },
  { cls := 7, slots := #[.int (119)], vm := .none },
  { cls := 7, slots := #[.int (120)], vm := .none },
  { cls := 7, slots := #[.int (121)], vm := .none },
  { cls := 7, slots := #[.int (122)], vm := .none },
  { cls := 7, slots := #[.int (123)], vm := .none },
  { cls := 7, slots := #[.int (124)], vm := .none },
  { cls := 7, slots := #[.int (125)], vm := .none },
  { cls := 7, slots := #[.int (126)], vm := .none },
  { cls := 7, slots := #[.int (127)], vm := .none },
  { cls := 34, slots := #[], vm := .none },
  { cls := 34, slots := #[], vm := .none },
  { cls := 26, slots := #[.int 0, .int 0], vm := .none },
  { cls := 0, slots := #[], vm := .mirror 17 },
  { cls := 0, slots := #[], vm := .mirror 24 },
  { cls := 0, slots := #[], vm := .mirror 25 }]
def classes : Array Class := #[k0, k1, k2, k3, k4, k5, k6, k7, k8, k9, k10, k11, k12, k13, k14, k15, k16, k17, k18, k19, k20, k21, k22, k23, k24, k25, k26, k27, k28, k29, k30, k31, k32, k33, k34]
def interned : List (Array UInt16 × Addr) := []
def slotsUsed : Nat := 534
def theMethod : MethodId := ⟨1, 1⟩
def args0 : Array Value := #[.int 5, .int 3, .int 7, .int 8]
def aboutOver (below : List Frame) : State where
  vm := { classes := classes, interned := interned.toArray }
  heap := heap
  slotsUsed := slotsUsed
  threads := #[{ frames := .invoking theMethod args0 :: below }]
def below0 : List Frame := [.native { method := ⟨0, 0⟩, args := #[] }]
def about1 : State := aboutOver below0
def p0 : Program := .bare "" "" ""
def e0 : Env := launch0.env 0 0 0
theorem w_frames : about1.frames = Frame.invoking theMethod args0 :: below0 := rfl
set_option maxRecDepth 65536 in
theorem w_args : argsFit about1.vm theMethod args0 = true := by decide +kernel
set_option maxRecDepth 65536 in
theorem w_heap : heapFits about1 = true := by decide +kernel
set_option maxRecDepth 65536 in
theorem w_runnable : about1.curStatus? = some .runnable := by decide +kernel
set_option maxRecDepth 65536 in
theorem w_alone : about1.alone = true := by decide +kernel
set_option maxRecDepth 65536 in
theorem w_named : about1.methodNamed? x = some theMethod := by decide +kernel
set_option maxRecDepth 65536 in
theorem w_hears : about1.hears theMethod below0 = true := by decide +kernel
set_option maxRecDepth 65536 in
theorem w_ripe : about1.ripe theMethod args0 below0 = true := by decide +kernel
theorem w_running : about1.status = .running := rfl
set_option maxRecDepth 65536 in
theorem w_room : about1.hasRoom e0.platform room_1 = true :=
  launch0.hasRoom_least _ room_1 (by decide +kernel) (by decide +kernel) (by decide +kernel) (by decide +kernel) (by decide +kernel) (by decide +kernel)
theorem allAtoms_all (ts : List Jvm.Cond) (a : Array Jvm.Value) (st : Jvm.State) : (allAtoms ts).before a st = ts.all (fun c => c.before a st) := by
  induction ts with
  | nil => rfl
  | cons c t ih =>
    show (Jvm.Cond.and c (allAtoms t)).before a st = _
    rw [Jvm.Cond.before_and, ih, List.all_cons]
def words1 : List Jvm.Cond := Jvm.Cond.code x code maxLocals ret :: tables_1
/-- a 'code' word, met by the world's own term for the bytes: nothing is compared byte by byte -/
theorem code_word {y : MethodName} {bytes : ByteArray} {mx : Nat} {rt : Option FieldType} {a : Array Value} {s : State} {m : MethodId} {meth : Method} {c : Code} (h1 : s.methodNamed? y = some m) (h2 : s.vm.method? m = some meth) (h3 : meth.code = some c) (h4 : c.code = bytes)
    (h5 : (c.maxLocals == mx && c.exceptionTable.isEmpty && decide (c.maxStack ≤ mostOperands) && decide (meth.sig.returnType = rt) && !meth.locks && decide (parseMethodDescriptor y.desc = some meth.sig)) = true) : (Jvm.Cond.code y bytes mx rt).before a s = true := by
  simp only [Bool.and_eq_true, beq_iff_eq, Bool.not_eq_true', decide_eq_true_eq] at h5
  obtain ⟨⟨⟨⟨⟨g1, g2⟩, g3⟩, g4⟩, g5⟩, g6⟩ := h5
  simp [Cond.before, Cond.holds, Cond.value, h1, h2, h3, h4, g1, g2, g3, g4, g5, g6]
def isCode : Jvm.Cond → Bool
  | .code _ _ _ _ => true
  | _ => false
theorem all_split {L : List Jvm.Cond} {P : Jvm.Cond → Bool} (h1 : L.all (fun c => isCode c || P c) = true) (h2 : ∀ c ∈ L.filter isCode, P c = true) : L.all P = true := by
  refine List.all_eq_true.mpr fun c hc => ?_
  have h := List.all_eq_true.mp h1 c hc
  rcases Bool.eq_false_or_eq_true (isCode c) with hi | hi
  · exact h2 c (List.mem_filter.mpr ⟨hc, hi⟩)
  · simpa [hi] using h
set_option maxRecDepth 65536 in
theorem w_c0 : (Jvm.Cond.code x code maxLocals ret).before args0 about1 = true := code_word (m := ⟨1, 1⟩) (meth := k1m1) (c := k1c1) (by decide +kernel) rfl rfl rfl (by decide +kernel)
set_option maxRecDepth 65536 in
theorem w_c1 : (Jvm.Cond.code ({ cls := "java/lang/Integer", name := "valueOf", desc := "(I)Ljava/lang/Integer;" } : Jvm.MethodName) jdk_33_method_22_code (1 : Nat) (Option.some (Jvm.ClassFile.FieldType.object "java/lang/Integer"))).before args0 about1 = true := code_word (m := ⟨7, 0⟩) (meth := k7m0) (c := k7c0) (by decide +kernel) rfl rfl rfl (by decide +kernel)
set_option maxRecDepth 65536 in
theorem w_c2 : (Jvm.Cond.code ({ cls := "java/util/ArrayList", name := "<init>", desc := "()V" } : Jvm.MethodName) jdk_38_method_2_code (1 : Nat) (Option.none : Option Jvm.ClassFile.FieldType)).before args0 about1 = true := code_word (m := ⟨17, 0⟩) (meth := k17m0) (c := k17c0) (by decide +kernel) rfl rfl rfl (by decide +kernel)
set_option maxRecDepth 65536 in
theorem w_c3 : (Jvm.Cond.code ({ cls := "java/util/AbstractList", name := "<init>", desc := "()V" } : Jvm.MethodName) jdk_39_method_1_code (1 : Nat) (Option.none : Option Jvm.ClassFile.FieldType)).before args0 about1 = true := code_word (m := ⟨14, 0⟩) (meth := k14m0) (c := k14c0) (by decide +kernel) rfl rfl rfl (by decide +kernel)
set_option maxRecDepth 65536 in
theorem w_c4 : (Jvm.Cond.code ({ cls := "java/util/AbstractCollection", name := "<init>", desc := "()V" } : Jvm.MethodName) jdk_22_method_1_code (1 : Nat) (Option.none : Option Jvm.ClassFile.FieldType)).before args0 about1 = true := code_word (m := ⟨11, 0⟩) (meth := k11m0) (c := k11c0) (by decide +kernel) rfl rfl rfl (by decide +kernel)
set_option maxRecDepth 65536 in
theorem w_c5 : (Jvm.Cond.code ({ cls := "java/lang/Object", name := "<init>", desc := "()V" } : Jvm.MethodName) object_method_1_code (1 : Nat) (Option.none : Option Jvm.ClassFile.FieldType)).before args0 about1 = true := code_word (m := ⟨0, 0⟩) (meth := k0m0) (c := k0c0) (by decide +kernel) rfl rfl rfl (by decide +kernel)
set_option maxRecDepth 65536 in
theorem w_c6 : (Jvm.Cond.code ({ cls := "java/lang/String", name := "valueOf", desc := "(C)Ljava/lang/String;" } : Jvm.MethodName) jdk_42_method_139_code (1 : Nat) (Option.some (Jvm.ClassFile.FieldType.object "java/lang/String"))).before args0 about1 = true := code_word (m := ⟨19, 1⟩) (meth := k19m1) (c := k19c1) (by decide +kernel) rfl rfl rfl (by decide +kernel)
set_option maxRecDepth 65536 in
theorem w_c7 : (Jvm.Cond.code ({ cls := "java/lang/StringLatin1", name := "canEncode", desc := "(C)Z" } : Jvm.MethodName) jdk_43_method_3_code (1 : Nat) (Option.some Jvm.ClassFile.FieldType.boolean)).before args0 about1 = true := code_word (m := ⟨20, 1⟩) (meth := k20m1) (c := k20c1) (by decide +kernel) rfl rfl rfl (by decide +kernel)
set_option maxRecDepth 65536 in
theorem w_c8 : (Jvm.Cond.code ({ cls := "java/lang/StringLatin1", name := "toBytes", desc := "(C)[B" } : Jvm.MethodName) jdk_43_method_46_code (1 : Nat) (Option.some (Jvm.ClassFile.FieldType.array Jvm.ClassFile.FieldType.byte))).before args0 about1 = true := code_word (m := ⟨20, 2⟩) (meth := k20m2) (c := k20c2) (by decide +kernel) rfl rfl rfl (by decide +kernel)
set_option maxRecDepth 65536 in
theorem w_c9 : (Jvm.Cond.code ({ cls := "java/lang/String", name := "<init>", desc := "([BB)V" } : Jvm.MethodName) jdk_42_method_151_code (3 : Nat) (Option.none : Option Jvm.ClassFile.FieldType)).before args0 about1 = true := code_word (m := ⟨19, 2⟩) (meth := k19m2) (c := k19c2) (by decide +kernel) rfl rfl rfl (by decide +kernel)
set_option maxRecDepth 65536 in
theorem w_c10 : (Jvm.Cond.code ({ cls := "com/example/conformance_check/conformancecheck/document/RationaleRow", name := "<init>", desc := "(Ljava/lang/Integer;IILjava/lang/String;Ljava/util/List;Ljava/util/List;Z)V" } : Jvm.MethodName) prog_55_method_1_code (8 : Nat) (Option.none : Option Jvm.ClassFile.FieldType)).before args0 about1 = true := code_word (m := ⟨21, 0⟩) (meth := k21m0) (c := k21c0) (by decide +kernel) rfl rfl rfl (by decide +kernel)
set_option maxRecDepth 65536 in
theorem w_c11 : (Jvm.Cond.code ({ cls := "java/util/Collections", name := "unmodifiableList", desc := "(Ljava/util/List;)Ljava/util/List;" } : Jvm.MethodName) jdk_79_method_35_code (1 : Nat) (Option.some (Jvm.ClassFile.FieldType.object "java/util/List"))).before args0 about1 = true := code_word (m := ⟨22, 1⟩) (meth := k22m1) (c := k22c1) (by decide +kernel) rfl rfl rfl (by decide +kernel)
set_option maxRecDepth 65536 in
theorem w_c12 : (Jvm.Cond.code ({ cls := "java/util/Collections$UnmodifiableRandomAccessList", name := "<init>", desc := "(Ljava/util/List;)V" } : Jvm.MethodName) jdk_121_method_1_code (2 : Nat) (Option.none : Option Jvm.ClassFile.FieldType)).before args0 about1 = true := code_word (m := ⟨25, 0⟩) (meth := k25m0) (c := k25c0) (by decide +kernel) rfl rfl rfl (by decide +kernel)
set_option maxRecDepth 65536 in
theorem w_c13 : (Jvm.Cond.code ({ cls := "java/util/Collections$UnmodifiableList", name := "<init>", desc := "(Ljava/util/List;)V" } : Jvm.MethodName) jdk_120_method_1_code (2 : Nat) (Option.none : Option Jvm.ClassFile.FieldType)).before args0 about1 = true := code_word (m := ⟨24, 0⟩) (meth := k24m0) (c := k24c0) (by decide +kernel) rfl rfl rfl (by decide +kernel)
set_option maxRecDepth 65536 in
theorem w_c14 : (Jvm.Cond.code ({ cls := "java/util/Collections$UnmodifiableCollection", name := "<init>", desc := "(Ljava/util/Collection;)V" } : Jvm.MethodName) jdk_119_method_1_code (2 : Nat) (Option.none : Option Jvm.ClassFile.FieldType)).before args0 about1 = true := code_word (m := ⟨23, 0⟩) (meth := k23m0) (c := k23c0) (by decide +kernel) rfl rfl rfl (by decide +kernel)
set_option maxRecDepth 65536 in
theorem w_c15 : (Jvm.Cond.code ({ cls := "com/example/conformance_check/conformancecheck/document/RationaleRow", name := "number", desc := "()Ljava/util/OptionalInt;" } : Jvm.MethodName) prog_55_method_2_code (1 : Nat) (Option.some (Jvm.ClassFile.FieldType.object "java/util/OptionalInt"))).before args0 about1 = true := code_word (m := ⟨21, 1⟩) (meth := k21m1) (c := k21c1) (by decide +kernel) rfl rfl rfl (by decide +kernel)
set_option maxRecDepth 65536 in
theorem w_c16 : (Jvm.Cond.code ({ cls := "java/lang/Integer", name := "intValue", desc := "()I" } : Jvm.MethodName) jdk_33_method_27_code (1 : Nat) (Option.some Jvm.ClassFile.FieldType.int)).before args0 about1 = true := code_word (m := ⟨7, 2⟩) (meth := k7m2) (c := k7c2) (by decide +kernel) rfl rfl rfl (by decide +kernel)
set_option maxRecDepth 65536 in
theorem w_c17 : (Jvm.Cond.code ({ cls := "java/util/OptionalInt", name := "of", desc := "(I)Ljava/util/OptionalInt;" } : Jvm.MethodName) jdk_2649_method_4_code (1 : Nat) (Option.some (Jvm.ClassFile.FieldType.object "java/util/OptionalInt"))).before args0 about1 = true := code_word (m := ⟨26, 3⟩) (meth := k26m3) (c := k26c3) (by decide +kernel) rfl rfl rfl (by decide +kernel)
set_option maxRecDepth 65536 in
theorem w_c18 : (Jvm.Cond.code ({ cls := "java/util/OptionalInt", name := "<init>", desc := "(I)V" } : Jvm.MethodName) jdk_2649_method_3_code (2 : Nat) (Option.none : Option Jvm.ClassFile.FieldType)).before args0 about1 = true := code_word (m := ⟨26, 2⟩) (meth := k26m2) (c := k26c2) (by decide +kernel) rfl rfl rfl (by decide +kernel)
set_option maxRecDepth 65536 in
theorem w_c19 : (Jvm.Cond.code ({ cls := "java/util/OptionalInt", name := "isPresent", desc := "()Z" } : Jvm.MethodName) jdk_2649_method_6_code (1 : Nat) (Option.some Jvm.ClassFile.FieldType.boolean)).before args0 about1 = true := code_word (m := ⟨26, 5⟩) (meth := k26m5) (c := k26c5) (by decide +kernel) rfl rfl rfl (by decide +kernel)
set_option maxRecDepth 65536 in
theorem w_c20 : (Jvm.Cond.code ({ cls := "java/util/OptionalInt", name := "getAsInt", desc := "()I" } : Jvm.MethodName) jdk_2649_method_5_code (1 : Nat) (Option.some Jvm.ClassFile.FieldType.int)).before args0 about1 = true := code_word (m := ⟨26, 4⟩) (meth := k26m4) (c := k26c4) (by decide +kernel) rfl rfl rfl (by decide +kernel)
set_option maxRecDepth 65536 in
theorem w_c21 : (Jvm.Cond.code ({ cls := "java/util/OptionalInt", name := "empty", desc := "()Ljava/util/OptionalInt;" } : Jvm.MethodName) jdk_2649_method_2_code (0 : Nat) (Option.some (Jvm.ClassFile.FieldType.object "java/util/OptionalInt"))).before args0 about1 = true := code_word (m := ⟨26, 1⟩) (meth := k26m1) (c := k26c1) (by decide +kernel) rfl rfl rfl (by decide +kernel)
set_option maxRecDepth 65536 in
theorem w_c22 : (Jvm.Cond.code ({ cls := "java/lang/Integer", name := "<init>", desc := "(I)V" } : Jvm.MethodName) jdk_33_method_23_code (2 : Nat) (Option.none : Option Jvm.ClassFile.FieldType)).before args0 about1 = true := code_word (m := ⟨7, 1⟩) (meth := k7m1) (c := k7c1) (by decide +kernel) rfl rfl rfl (by decide +kernel)
set_option maxRecDepth 65536 in
theorem w_c23 : (Jvm.Cond.code ({ cls := "java/lang/Number", name := "<init>", desc := "()V" } : Jvm.MethodName) jdk_18_method_1_code (1 : Nat) (Option.none : Option Jvm.ClassFile.FieldType)).before args0 about1 = true := code_word (m := ⟨3, 0⟩) (meth := k3m0) (c := k3c0) (by decide +kernel) rfl rfl rfl (by decide +kernel)
def codes1 : List Jvm.Cond := [Jvm.Cond.code x code maxLocals ret, Jvm.Cond.code ({ cls := "java/lang/Integer", name := "valueOf", desc := "(I)Ljava/lang/Integer;" } : Jvm.MethodName) jdk_33_method_22_code (1 : Nat) (Option.some (Jvm.ClassFile.FieldType.object "java/lang/Integer")), Jvm.Cond.code ({ cls := "java/util/ArrayList", name := "<init>", desc := "()V" } : Jvm.MethodName) jdk_38_method_2_code (1 : Nat) (Option.none : Option Jvm.ClassFile.FieldType), Jvm.Cond.code ({ cls := "java/util/AbstractList", name := "<init>", desc := "()V" } : Jvm.MethodName) jdk_39_method_1_code (1 : Nat) (Option.none : Option Jvm.ClassFile.FieldType), Jvm.Cond.code ({ cls := "java/util/AbstractCollection", name := "<init>", desc := "()V" } : Jvm.MethodName) jdk_22_method_1_code (1 : Nat) (Option.none : Option Jvm.ClassFile.FieldType), Jvm.Cond.code ({ cls := "java/lang/Object", name := "<init>", desc := "()V" } : Jvm.MethodName) object_method_1_code (1 : Nat) (Option.none : Option Jvm.ClassFile.FieldType), Jvm.Cond.code ({ cls := "java/lang/String", name := "valueOf", desc := "(C)Ljava/lang/String;" } : Jvm.MethodName) jdk_42_method_139_code (1 : Nat) (Option.some (Jvm.ClassFile.FieldType.object "java/lang/String")), Jvm.Cond.code ({ cls := "java/lang/StringLatin1", name := "canEncode", desc := "(C)Z" } : Jvm.MethodName) jdk_43_method_3_code (1 : Nat) (Option.some Jvm.ClassFile.FieldType.boolean), Jvm.Cond.code ({ cls := "java/lang/StringLatin1", name := "toBytes", desc := "(C)[B" } : Jvm.MethodName) jdk_43_method_46_code (1 : Nat) (Option.some (Jvm.ClassFile.FieldType.array Jvm.ClassFile.FieldType.byte)), Jvm.Cond.code ({ cls := "java/lang/String", name := "<init>", desc := "([BB)V" } : Jvm.MethodName) jdk_42_method_151_code (3 : Nat) (Option.none : Option Jvm.ClassFile.FieldType), Jvm.Cond.code ({ cls := "com/example/conformance_check/conformancecheck/document/RationaleRow", name := "<init>", desc := "(Ljava/lang/Integer;IILjava/lang/String;Ljava/util/List;Ljava/util/List;Z)V" } : Jvm.MethodName) prog_55_method_1_code (8 : Nat) (Option.none : Option Jvm.ClassFile.FieldType), Jvm.Cond.code ({ cls := "java/util/Collections", name := "unmodifiableList", desc := "(Ljava/util/List;)Ljava/util/List;" } : Jvm.MethodName) jdk_79_method_35_code (1 : Nat) (Option.some (Jvm.ClassFile.FieldType.object "java/util/List")), Jvm.Cond.code ({ cls := "java/util/Collections$UnmodifiableRandomAccessList", name := "<init>", desc := "(Ljava/util/List;)V" } : Jvm.MethodName) jdk_121_method_1_code (2 : Nat) (Option.none : Option Jvm.ClassFile.FieldType), Jvm.Cond.code ({ cls := "java/util/Collections$UnmodifiableList", name := "<init>", desc := "(Ljava/util/List;)V" } : Jvm.MethodName) jdk_120_method_1_code (2 : Nat) (Option.none : Option Jvm.ClassFile.FieldType), Jvm.Cond.code ({ cls := "java/util/Collections$UnmodifiableCollection", name := "<init>", desc := "(Ljava/util/Collection;)V" } : Jvm.MethodName) jdk_119_method_1_code (2 : Nat) (Option.none : Option Jvm.ClassFile.FieldType), Jvm.Cond.code ({ cls := "com/example/conformance_check/conformancecheck/document/RationaleRow", name := "number", desc := "()Ljava/util/OptionalInt;" } : Jvm.MethodName) prog_55_method_2_code (1 : Nat) (Option.some (Jvm.ClassFile.FieldType.object "java/util/OptionalInt")), Jvm.Cond.code ({ cls := "java/lang/Integer", name := "intValue", desc := "()I" } : Jvm.MethodName) jdk_33_method_27_code (1 : Nat) (Option.some Jvm.ClassFile.FieldType.int), Jvm.Cond.code ({ cls := "java/util/OptionalInt", name := "of", desc := "(I)Ljava/util/OptionalInt;" } : Jvm.MethodName) jdk_2649_method_4_code (1 : Nat) (Option.some (Jvm.ClassFile.FieldType.object "java/util/OptionalInt")), Jvm.Cond.code ({ cls := "java/util/OptionalInt", name := "<init>", desc := "(I)V" } : Jvm.MethodName) jdk_2649_method_3_code (2 : Nat) (Option.none : Option Jvm.ClassFile.FieldType), Jvm.Cond.code ({ cls := "java/util/OptionalInt", name := "isPresent", desc := "()Z" } : Jvm.MethodName) jdk_2649_method_6_code (1 : Nat) (Option.some Jvm.ClassFile.FieldType.boolean), Jvm.Cond.code ({ cls := "java/util/OptionalInt", name := "getAsInt", desc := "()I" } : Jvm.MethodName) jdk_2649_method_5_code (1 : Nat) (Option.some Jvm.ClassFile.FieldType.int), Jvm.Cond.code ({ cls := "java/util/OptionalInt", name := "empty", desc := "()Ljava/util/OptionalInt;" } : Jvm.MethodName) jdk_2649_method_2_code (0 : Nat) (Option.some (Jvm.ClassFile.FieldType.object "java/util/OptionalInt")), Jvm.Cond.code ({ cls := "java/lang/Integer", name := "<init>", desc := "(I)V" } : Jvm.MethodName) jdk_33_method_23_code (2 : Nat) (Option.none : Option Jvm.ClassFile.FieldType), Jvm.Cond.code ({ cls := "java/lang/Number", name := "<init>", desc := "()V" } : Jvm.MethodName) jdk_18_method_1_code (1 : Nat) (Option.none : Option Jvm.ClassFile.FieldType)]
set_option maxRecDepth 65536 in
theorem codes_eq : words1.filter isCode = codes1 := rfl
theorem w_codes : ∀ c ∈ words1.filter isCode, c.before args0 about1 = true := by
  rw [codes_eq]
  intro c hc
  simp only [codes1, List.mem_cons, List.not_mem_nil, or_false] at hc
  rcases hc with rfl | rfl | rfl | rfl | rfl | rfl | rfl | rfl | rfl | rfl | rfl | rfl | rfl | rfl | rfl | rfl | rfl | rfl | rfl | rfl | rfl | rfl | rfl | rfl
  · exact w_c0
  · exact w_c1
  · exact w_c2
  · exact w_c3
  · exact w_c4
  · exact w_c5
  · exact w_c6
  · exact w_c7
  · exact w_c8
  · exact w_c9
  · exact w_c10
  · exact w_c11
  · exact w_c12
  · exact w_c13
  · exact w_c14
  · exact w_c15
  · exact w_c16
  · exact w_c17
  · exact w_c18
  · exact w_c19
  · exact w_c20
  · exact w_c21
  · exact w_c22
  · exact w_c23
set_option maxRecDepth 65536 in
theorem w_t1 : (words1.take 24).all (fun c => isCode c || c.before args0 about1) = true := by decide +kernel
set_option maxRecDepth 65536 in
theorem w_t2 : ((words1.drop 24).take 24).all (fun c => isCode c || c.before args0 about1) = true := by decide +kernel
set_option maxRecDepth 65536 in
theorem w_t3 : (((words1.drop 24).drop 24).take 24).all (fun c => isCode c || c.before args0 about1) = true := by decide +kernel
set_option maxRecDepth 65536 in
theorem w_t4 : ((((words1.drop 24).drop 24).drop 24).take 24).all (fun c => isCode c || c.before args0 about1) = true := by decide +kernel
set_option maxRecDepth 65536 in
theorem w_t5 : (((((words1.drop 24).drop 24).drop 24).drop 24).take 24).all (fun c => isCode c || c.before args0 about1) = true := by decide +kernel
set_option maxRecDepth 65536 in
theorem w_t6 : ((((((words1.drop 24).drop 24).drop 24).drop 24).drop 24).take 24).all (fun c => isCode c || c.before args0 about1) = true := by decide +kernel
set_option maxRecDepth 65536 in
theorem w_t7 : (((((((words1.drop 24).drop 24).drop 24).drop 24).drop 24).drop 24).take 24).all (fun c => isCode c || c.before args0 about1) = true := by decide +kernel
set_option maxRecDepth 65536 in
theorem w_t8 : (((((((words1.drop 24).drop 24).drop 24).drop 24).drop 24).drop 24).drop 24).all (fun c => isCode c || c.before args0 about1) = true := by decide +kernel
theorem w_tables : (allAtoms (Jvm.Cond.code x code maxLocals ret :: tables_1)).before args0 about1 = true := by
  rw [allAtoms_all]
  show words1.all (fun c => c.before args0 about1) = true
  refine all_split ?_ w_codes
  rw [← List.take_append_drop 24 words1, List.all_append, w_t1, ← List.take_append_drop 24 (words1.drop 24), List.all_append, w_t2, ← List.take_append_drop 24 ((words1.drop 24).drop 24), List.all_append, w_t3, ← List.take_append_drop 24 (((words1.drop 24).drop 24).drop 24), List.all_append, w_t4, ← List.take_append_drop 24 ((((words1.drop 24).drop 24).drop 24).drop 24), List.all_append, w_t5, ← List.take_append_drop 24 (((((words1.drop 24).drop 24).drop 24).drop 24).drop 24), List.all_append, w_t6, ← List.take_append_drop 24 ((((((words1.drop 24).drop 24).drop 24).drop 24).drop 24).drop 24), List.all_append, w_t7, w_t8]
  rfl
set_option maxRecDepth 65536 in
theorem w_rest : rest_1_c.before args0 about1 = true := by decide +kernel
set_option maxRecDepth 65536 in
theorem w_case : (Jvm.Cond.and given_1 narrow_1).before args0 about1 = true := by decide +kernel
theorem w_applies : (headSpec (Jvm.Cond.code x code maxLocals ret :: tables_1) room_1).applies x e0.platform about1 = true :=
  (Spec.applies_iff w_frames).mpr ⟨w_running, w_runnable, w_alone, w_named, w_hears, w_ripe, w_room, w_tables⟩
set_option maxRecDepth 65536 in
theorem atStart : AtStart classFile x code maxLocals ret World_1 tables_1 room_1 Calls_1 rest_1 Pre_1 launch0 p0 e0 about1 theMethod args0 below0 :=
  ⟨lists_1, trivial, launch0.admits_env _ _ _, launch0.least_env, fairChoices_fair.cas, fairChoices_fair.clock, w_frames, w_args, w_heap, w_applies, ⟨⟨17, k17, 265, (by decide +kernel), rfl, rfl, _, rfl, rfl⟩, ⟨24, k24, 266, (by decide +kernel), rfl, rfl, _, rfl, rfl⟩, ⟨25, k25, 267, (by decide +kernel), rfl, rfl, _, rfl, rfl⟩, trivial⟩, w_rest, w_case⟩
end start1
theorem witness_1 : WitnessClaimed_1 := ⟨start1.p0, start1.e0, start1.about1, start1.theMethod, start1.args0, start1.below0, start1.atStart⟩
end Jvm.Pilot.@@N@@
