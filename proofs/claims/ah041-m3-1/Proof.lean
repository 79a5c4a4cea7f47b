import JvmDerived
import JvmDerived.Pilot.@@N@@Statement
import JvmDerived.Pilot.@@N@@Code
set_option maxRecDepth 65536
set_option maxHeartbeats 40000000
set_option linter.unusedVariables false
set_option linter.unusedSimpArgs false
namespace Jvm.Pilot.@@N@@
open Jvm Jvm.ClassFile Sem Op Lib Jvm.Free Jvm.Stand Jvm.LawKit Jvm.RoadKit Bundle Jvm.Pilot.@@N@@.Jvm.D
def own_SC (Z : State) (cs0 : Int32) : Prop := Sta Z Z.heap "java/lang/String" "COMPACT_STRINGS" "Z" (.int cs0) ∧ ¬ cs0 = 0
abbrev F'0 (Z : State) (h : Heap) (a : Addr) (v : Value) : Prop := Fld Z h a "java/lang/String" "coder" "B" v
abbrev F'1 (Z : State) (h : Heap) (a : Addr) (v : Value) : Prop := Fld Z h a "java/lang/String" "value" "[B" v
abbrev b'1 := method_2_code
abbrev b'2 := jdk_42_method_3_code
abbrev b'3 := jdk_42_method_149_code
abbrev b'5 := prog_14_method_2_code
abbrev b'6 := jdk_42_method_79_code
abbrev b'7 := jdk_42_method_80_code
abbrev b'8 := jdk_42_method_154_code
abbrev b'9 := jdk_42_method_54_code
abbrev b'10 := jdk_42_method_152_code
abbrev b'11 := jdk_43_method_22_code
abbrev b'12 := jdk_43_method_4_code
abbrev b'13 := jdk_29_method_65_code
abbrev b'14 := jdk_29_method_69_code
abbrev b'15 := jdk_52_method_16_code
abbrev b'16 := jdk_52_method_21_code
abbrev b'17 := jdk_52_method_15_code
abbrev b'18 := method_3_code
abbrev b'19 := jdk_43_method_23_code
abbrev v'0 : Value := .int 0
abbrev v'1 : Value := .int 1
abbrev v'2 : Value := .int 2
abbrev v'3 : Value := .int 3
abbrev v'4 : Value := .int 4
theorem own_dummy : True := trivial
section Own
variable {p : Program} {l : Launch} {e : Env} {R : Room} {s : State} {m : MethodId} {args : Array Value} {below : List Frame} {meth : Method} {c : Code} {T : State} {locs : List Loc} {cells slots : Nat}
def own_Fin (p : Program) (e : Env) (below : List Frame) (P : Outcome → State → Prop) (U : State) : Prop := ∃ s₂ o, Steps p.tables e below U s₂ ∧ s₂.status = .running ∧ Ended s₂ below o ∧ P o s₂
def own_P (Q : Option Value → Heap → List Loc → Prop) (s : State) (C S : Nat) : Outcome → State → Prop := fun o t => ∃ v L, o = .returned v ∧ Q v t.heap L ∧ FrameEnd s o t L C S
theorem own_go {P : Outcome → State → Prop} {U U' : State} (k : own_Fin p e below P U') (h : ∀ t, Steps p.tables e below U' t → Steps p.tables e below U t) : own_Fin p e below P U := by
 obtain ⟨t, o, h1, r⟩ := k; exact ⟨t, o, h t h1, r⟩
theorem own_cut {P : Outcome → State → Prop} {U : State} (A : Prop) (k : A) (h : A → own_Fin p e below P U) : own_Fin p e below P U := h k
theorem own_retN (X : Stand p l e R s m args below meth c T locs cells slots) (hx : p.tables.exec = Jvm.exec) {pc : Nat} {Ls : Array Slot} {z : Int32} {t : FieldType} {rest : List Value} (hret : meth.sig.returnType = some t) (ht : t = .boolean ∨ t = .byte ∨ t = .char ∨ t = .short)
  (hd : decode c.code pc = .ok (.ireturn, 1)) (hlk : meth.locks = false) {Q : Option Value → Heap → List Loc → Prop} {C S : Nat} (hQ : Q (some (.int (nar t z))) T.heap locs) (hC : cells ≤ C) (hS : slots ≤ S) : own_Fin p e below (own_P Q s C S) (T.setTop (mkF m pc Ls (.int z :: rest))) := by
 obtain ⟨fs, hr, hrun, hended, hW, hsame⟩ := X.leave (v := some (.int (nar t z))) (fun h => by rw [hret] at h; cases h) hlk
 exact ⟨_, _, retN X hx hret ht hd hr, hrun, hended, _, _, rfl, hQ, ⟨_, rfl⟩, hW, hsame.mono hC hS⟩
theorem own_retO (X : Stand p l e R s m args below meth c T locs cells slots) (hx : p.tables.exec = Jvm.exec) {pc : Nat} {Ls : Array Slot} {w : Value} {t : FieldType} {i : Instr} {rest : List Value} (hret : meth.sig.returnType = some t) (hn : narrow t w = w)
  (hi : (i = .ireturn ∧ (t = .int ∨ t = .boolean ∨ t = .byte ∨ t = .char ∨ t = .short) ∧ ∃ z, w = .int z) ∨ (i = .lreturn ∧ t = .long ∧ ∃ z, w = .long z) ∨ (i = .dreturn ∧ t = .double ∧ ∃ z, w = .double z) ∨ (i = .freturn ∧ t = .float ∧ ∃ z, w = .float z) ∨ (i = .areturn ∧ t.isReference = true ∧ w.isRef = true))
  (hd : decode c.code pc = .ok (i, 1)) (hlk : meth.locks = false) {Q : Option Value → Heap → List Loc → Prop} {C S : Nat} (hQ : Q (some w) T.heap locs) (hC : cells ≤ C) (hS : slots ≤ S) : own_Fin p e below (own_P Q s C S) (T.setTop (mkF m pc Ls (w :: rest))) := by
 obtain ⟨fs, hr, hrun, hended, hW, hsame⟩ := X.leave (v := some w) (fun h => by rw [hret] at h; cases h) hlk
 exact ⟨_, _, retOut X hx hret hn hi hd hr, hrun, hended, _, _, rfl, hQ, ⟨_, rfl⟩, hW, hsame.mono hC hS⟩
theorem own_retV (X : Stand p l e R s m args below meth c T locs cells slots) (hx : p.tables.exec = Jvm.exec) {pc : Nat} {Ls : Array Slot} (hret : meth.sig.returnType = none)
  (hd : decode c.code pc = .ok (.return_, 1)) (hlk : meth.locks = false) {Q : Option Value → Heap → List Loc → Prop} {C S : Nat} (hQ : Q none T.heap locs) (hC : cells ≤ C) (hS : slots ≤ S) : own_Fin p e below (own_P Q s C S) (T.setTop (mkF m pc Ls [])) := by
 obtain ⟨fs, hr, hrun, hended, hW, hsame⟩ := X.leave (v := none) (fun _ => rfl) hlk
 exact ⟨_, _, X.returnOut hx hret hd hr, hrun, hended, _, _, rfl, hQ, ⟨_, rfl⟩, hW, hsame.mono hC hS⟩
def own_PW (Q : Option Value → Heap → List Loc → Prop) (s : State) (C S : Nat) : Outcome → State → Prop := fun o t => ∃ v L, o = .returned v ∧ Q v t.heap L ∧ ReturnedEndW s o t L C S
theorem own_wmono {s t : State} {o : Outcome} {L : List Loc} {k n C S : Nat} (h : ReturnedEndW s o t L k n) (hC : k ≤ C) (hS : n ≤ S) : ReturnedEndW s o t L C S := ⟨h.1, h.2.1, h.2.2.1, h.2.2.2.mono hC hS⟩
theorem own_retNW {vm0 : Vm} (X : Stand p l e R (s.setVm vm0) m args below meth c T locs cells slots) {k0 : Nat} (hS : s.Since vm0 k0) (hk : k0 ≤ T.heap.size) (hx : p.tables.exec = Jvm.exec) {pc : Nat} {Ls : Array Slot} {z : Int32} {t : FieldType} {rest : List Value} (hret : meth.sig.returnType = some t) (ht : t = .boolean ∨ t = .byte ∨ t = .char ∨ t = .short)
  (hd : decode c.code pc = .ok (.ireturn, 1)) (hlk : meth.locks = false) {Q : Option Value → Heap → List Loc → Prop} {C S : Nat} (hQ : Q (some (.int (nar t z))) T.heap locs) (hC : cells ≤ C) (hS' : slots ≤ S) : own_Fin p e below (own_PW Q s C S) (T.setTop (mkF m pc Ls (.int z :: rest))) := by
 obtain ⟨fs, hr, hrun, hended, hW⟩ := X.leaveW hS hk (v := some (.int (nar t z))) (fun h => by rw [hret] at h; cases h) hlk
 exact ⟨_, _, retN X hx hret ht hd hr, hrun, hended, _, _, rfl, hQ, own_wmono hW hC hS'⟩
theorem own_retOW {vm0 : Vm} (X : Stand p l e R (s.setVm vm0) m args below meth c T locs cells slots) {k0 : Nat} (hS : s.Since vm0 k0) (hk : k0 ≤ T.heap.size) (hx : p.tables.exec = Jvm.exec) {pc : Nat} {Ls : Array Slot} {w : Value} {t : FieldType} {i : Instr} {rest : List Value} (hret : meth.sig.returnType = some t) (hn : narrow t w = w)
  (hi : (i = .ireturn ∧ (t = .int ∨ t = .boolean ∨ t = .byte ∨ t = .char ∨ t = .short) ∧ ∃ z, w = .int z) ∨ (i = .lreturn ∧ t = .long ∧ ∃ z, w = .long z) ∨ (i = .dreturn ∧ t = .double ∧ ∃ z, w = .double z) ∨ (i = .freturn ∧ t = .float ∧ ∃ z, w = .float z) ∨ (i = .areturn ∧ t.isReference = true ∧ w.isRef = true))
  (hd : decode c.code pc = .ok (i, 1)) (hlk : meth.locks = false) {Q : Option Value → Heap → List Loc → Prop} {C S : Nat} (hQ : Q (some w) T.heap locs) (hC : cells ≤ C) (hS' : slots ≤ S) : own_Fin p e below (own_PW Q s C S) (T.setTop (mkF m pc Ls (w :: rest))) := by
 obtain ⟨fs, hr, hrun, hended, hW⟩ := X.leaveW hS hk (v := some w) (fun h => by rw [hret] at h; cases h) hlk
 exact ⟨_, _, retOut X hx hret hn hi hd hr, hrun, hended, _, _, rfl, hQ, own_wmono hW hC hS'⟩
theorem own_retVW {vm0 : Vm} (X : Stand p l e R (s.setVm vm0) m args below meth c T locs cells slots) {k0 : Nat} (hS : s.Since vm0 k0) (hk : k0 ≤ T.heap.size) (hx : p.tables.exec = Jvm.exec) {pc : Nat} {Ls : Array Slot} (hret : meth.sig.returnType = none)
  (hd : decode c.code pc = .ok (.return_, 1)) (hlk : meth.locks = false) {Q : Option Value → Heap → List Loc → Prop} {C S : Nat} (hQ : Q none T.heap locs) (hC : cells ≤ C) (hS' : slots ≤ S) : own_Fin p e below (own_PW Q s C S) (T.setTop (mkF m pc Ls [])) := by
 obtain ⟨fs, hr, hrun, hended, hW⟩ := X.leaveW hS hk (v := none) (fun _ => rfl) hlk
 exact ⟨_, _, X.returnOut hx hret hd hr, hrun, hended, _, _, rfl, hQ, own_wmono hW hC hS'⟩
theorem own_getR {Z : State} {a0 : Array Value} {h : Heap} (X : Stand p l e R s m args below meth c T locs cells slots) (hx : p.tables.exec = Jvm.exec) (hZ : Z.Warmed39 s.vm) {own O n d : String} {index : Nat} (hown : s.vm.findClass own = some m.cls) (w : (Jvm.Cond.fieldRef own index O n d).before a0 Z = true)
  (eT : T.heap = h) {a : Addr} {v : Value} (F : Fld Z h a O n d v) {g : JFrame} (hg : g.method = m) {rest : List Value} (hs : g.stack = .ref a :: rest) (hd : decode c.code g.pc = .ok (.getfield index, 3)) :
  ∀ target, Steps p.tables e below (T.setTop { g with pc := g.pc + 3, stack := v :: rest }) target → Steps p.tables e below (T.setTop g) target := by
 obtain ⟨cell, cf, k, i, f, h1, h2, h3, h4, -, -, h7⟩ := F
 have hU : Z.Warmed39 T.vm := wtrans hZ X.warmed
 have w0 : (Jvm.Cond.fieldRef own index O n d).before a0 (Z.setVm T.vm) = true := Cond.fieldRef_warmed39 hU w
 have w' : (Jvm.Cond.fieldRef own index O n d).before args T = true := w0
 have hc : T.vm.findClass own = some m.cls := by rw [X.warmed.alike.findClass]; exact hown
 obtain ⟨c', k', i', f', q1, q2⟩ := Cond.fieldRef_spec hc w'
 obtain ⟨k2, hi, -⟩ := State.fieldFound?_setVm (s := Z) hU.alike h2
 have hi' : T.fieldFound? O n d = some (cf, k2, i, f) := hi
 cases q1.symm.trans hi'
 intro target ht
 exact (X.getfieldR hx hg q2 h3 hs (by rw [eT]; exact h1) h4 h7 hd (Steps.refl _)).trans ht
end Own
abbrev own_hw (a0 : Array Value) (Z : State) : Prop := ∀ d ∈ tables_1, d.before a0 Z = true
def own_q (p : Program) (c : Code) (b : ByteArray) : Prop := p.tables.exec = Jvm.exec ∧ c.code = b
abbrev own_D (b : ByteArray) (pc : Nat) (i : Instr) (n pc' : Nat) : Prop := decode b pc = .ok (i, n) ∧ pc + n = pc'
def own_dk (b : ByteArray) (pc : Nat) : Option (Int32 × Nat) := match decode b pc with
 | .ok (.iconst i, 1) => some (Int32.ofInt i, pc + 1)
 | .ok (.bipush i, 2) => some ((Int8.ofInt i).toInt32, pc + 2)
 | .ok (.sipush i, 3) => some ((Int16.ofInt i).toInt32, pc + 3)
 | _ => none
abbrev own_DK (b : ByteArray) (pc : Nat) (z : Int32) (pc' : Nat) : Prop := own_dk b pc = some (z, pc')
theorem own_dkE {b : ByteArray} {pc pc' : Nat} {z : Int32} (d : own_DK b pc z pc') : (∃ i, decode b pc = .ok (.iconst i, 1) ∧ Int32.ofInt i = z ∧ pc + 1 = pc') ∨ (∃ i, decode b pc = .ok (.bipush i, 2) ∧ (Int8.ofInt i).toInt32 = z ∧ pc + 2 = pc') ∨ (∃ i, decode b pc = .ok (.sipush i, 3) ∧ (Int16.ofInt i).toInt32 = z ∧ pc + 3 = pc') := by
 unfold own_DK own_dk at d
 split at d
 ·rename_i i hd; cases d; exact Or.inl ⟨_, hd, rfl, rfl⟩
 ·rename_i i hd; cases d; exact Or.inr (Or.inl ⟨_, hd, rfl, rfl⟩)
 ·rename_i i hd; cases d; exact Or.inr (Or.inr ⟨_, hd, rfl, rfl⟩)
 ·cases d
def own_di (b : ByteArray) (pc : Nat) : Option (Nat × Int32 × Nat) := match decode b pc with
 | .ok (.iinc k i, 3) => some (k, Int32.ofInt i, pc + 3)
 | _ => none
abbrev own_DI (b : ByteArray) (pc k : Nat) (z : Int32) (pc' : Nat) : Prop := own_di b pc = some (k, z, pc')
theorem own_diE {b : ByteArray} {pc k pc' : Nat} {z : Int32} (d : own_DI b pc k z pc') : ∃ i, decode b pc = .ok (.iinc k i, 3) ∧ Int32.ofInt i = z ∧ pc + 3 = pc' := by
 unfold own_DI own_di at d
 split at d
 ·rename_i k i hd; cases d; exact ⟨_, hd, rfl, rfl⟩
 ·cases d
def own_dg (b : ByteArray) (pc : Nat) : Option Nat := match decode b pc with
 | .ok (.goto o, 3) => if 0 ≤ (pc : Int) + o then some ((pc : Int) + o).toNat else none
 | _ => none
abbrev own_DG (b : ByteArray) (pc t : Nat) : Prop := own_dg b pc = some t
theorem own_dgE {b : ByteArray} {pc t : Nat} (d : own_DG b pc t) : ∃ o, decode b pc = .ok (.goto o, 3) ∧ 0 ≤ (pc : Int) + o ∧ ((pc : Int) + o).toNat = t := by
 unfold own_DG own_dg at d
 split at d
 ·rename_i o hd
  split at d
  ·rename_i h; cases d; exact ⟨_, hd, h, rfl⟩
  ·cases d
 ·cases d
def own_dj (b : ByteArray) (pc : Nat) : Option (ClassFile.Cond × Nat × Nat) := match decode b pc with
 | .ok (.if_icmp cd o, 3) => if 0 ≤ (pc : Int) + o then some (cd, ((pc : Int) + o).toNat, pc + 3) else none
 | _ => none
abbrev own_DJ (b : ByteArray) (pc : Nat) (cd : ClassFile.Cond) (t n : Nat) : Prop := own_dj b pc = some (cd, t, n)
theorem own_djE {b : ByteArray} {pc t n : Nat} {cd : ClassFile.Cond} (d : own_DJ b pc cd t n) : ∃ o, decode b pc = .ok (.if_icmp cd o, 3) ∧ 0 ≤ (pc : Int) + o ∧ ((pc : Int) + o).toNat = t ∧ pc + 3 = n := by
 unfold own_DJ own_dj at d
 split at d
 ·rename_i cd o hd
  split at d
  ·rename_i h; cases d; exact ⟨_, hd, h, rfl, rfl⟩
  ·cases d
 ·cases d
def own_dz (b : ByteArray) (pc : Nat) : Option (ClassFile.Cond × Nat × Nat) := match decode b pc with
 | .ok (.ifCond cd o, 3) => if 0 ≤ (pc : Int) + o then some (cd, ((pc : Int) + o).toNat, pc + 3) else none
 | _ => none
abbrev own_DZ (b : ByteArray) (pc : Nat) (cd : ClassFile.Cond) (t n : Nat) : Prop := own_dz b pc = some (cd, t, n)
theorem own_dzE {b : ByteArray} {pc t n : Nat} {cd : ClassFile.Cond} (d : own_DZ b pc cd t n) : ∃ o, decode b pc = .ok (.ifCond cd o, 3) ∧ 0 ≤ (pc : Int) + o ∧ ((pc : Int) + o).toNat = t ∧ pc + 3 = n := by
 unfold own_DZ own_dz at d
 split at d
 ·rename_i cd o hd
  split at d
  ·rename_i h; cases d; exact ⟨_, hd, h, rfl, rfl⟩
  ·cases d
 ·cases d
section OwnC
variable {p : Program} {l : Launch} {e : Env} {R : Room} {s : State} {m : MethodId} {args : Array Value} {below : List Frame} {meth : Method} {c : Code} {T T' : State} {locs : List Loc} {cells slots : Nat} {b : ByteArray} {P : Outcome → State → Prop} {Ls l' : Array Slot} {S S' : List Value} {pc pc' t n : Nat}
theorem own_q.d {i : Instr} (q : own_q p c b) (d : own_D b pc i n pc') : decode c.code pc = .ok (i, n) := hb q.2 d.1
theorem own_w {Z : State} {a0 : Array Value} (hw : ∀ d ∈ tables_1, d.before a0 Z = true) (i : Nat) {d : Jvm.Cond} (h : tables_1[i]? = some d) : d.before a0 Z = true := hw d (List.mem_of_getElem? h)
theorem own_let (h : let g := mkF m pc Ls S; own_Fin p e below P (T.setTop g)) : own_Fin p e below P (T.setTop (mkF m pc Ls S)) := h
theorem own_stp (k : Nat) (st : ∀ t, Steps p.tables e below (T'.setTop (mkF m k Ls S')) t → Steps p.tables e below (T.setTop (mkF m pc Ls S)) t) (K : own_Fin p e below P (T'.setTop (mkF m k Ls S'))) : own_Fin p e below P (T.setTop (mkF m pc Ls S)) := own_go K st
theorem own_stq (k : Nat) (S' : List Value) (st : ∀ t, Steps p.tables e below (T'.setTop (mkF m k Ls S')) t → Steps p.tables e below (T.setTop (mkF m pc Ls S)) t) (K : own_Fin p e below P (T'.setTop (mkF m k Ls S'))) : own_Fin p e below P (T.setTop (mkF m pc Ls S)) := own_go K st
section OwnC2
theorem own_il {k : Nat} {v : Int32} (X : Stand p l e R s m args below meth c T locs cells slots) (q : own_q p c b) (d : own_D b pc (.iload k) 2 pc') (h : Ls[k]? = some (.val (.int v))) (K : own_Fin p e below P (T.setTop (mkF m pc' Ls (.int v :: S)))) : own_Fin p e below P (T.setTop (mkF m pc Ls S)) := by
 obtain ⟨hd, rfl⟩ := d
 exact own_go K fun t k => XS.iload X.here q.1 rfl (hb q.2 hd) h k
theorem own_iln {k : Fin 4} {v : Int32} (X : Stand p l e R s m args below meth c T locs cells slots) (q : own_q p c b) (d : own_D b pc (.iload_n k) 1 pc') (h : Ls[k.val]? = some (.val (.int v))) (K : own_Fin p e below P (T.setTop (mkF m pc' Ls (.int v :: S)))) : own_Fin p e below P (T.setTop (mkF m pc Ls S)) := by
 obtain ⟨hd, rfl⟩ := d
 exact own_go K fun t k => XS.iloadN X.here q.1 rfl (hb q.2 hd) h k
theorem own_al {k : Nat} {v : Value} (X : Stand p l e R s m args below meth c T locs cells slots) (q : own_q p c b) (d : own_D b pc (.aload k) 2 pc') (h : Ls[k]? = some (.val v)) (hv : v.isRef = true) (K : own_Fin p e below P (T.setTop (mkF m pc' Ls (v :: S)))) : own_Fin p e below P (T.setTop (mkF m pc Ls S)) := by
 obtain ⟨hd, rfl⟩ := d
 exact own_go K fun t k => XS.aload X.here q.1 rfl (hb q.2 hd) h hv k
theorem own_aln {k : Fin 4} {v : Value} (X : Stand p l e R s m args below meth c T locs cells slots) (q : own_q p c b) (d : own_D b pc (.aload_n k) 1 pc') (h : Ls[k.val]? = some (.val v)) (hv : v.isRef = true) (K : own_Fin p e below P (T.setTop (mkF m pc' Ls (v :: S)))) : own_Fin p e below P (T.setTop (mkF m pc Ls S)) := by
 obtain ⟨hd, rfl⟩ := d
 exact own_go K fun t k => XS.aloadN X.here q.1 rfl (hb q.2 hd) h hv k
theorem own_is {k : Nat} {v : Int32} (X : Stand p l e R s m args below meth c T locs cells slots) (q : own_q p c b) (d : own_D b pc (.istore k) 2 pc') (h : storeLocals Ls k (.int v) = some l') (K : own_Fin p e below P (T.setTop (mkF m pc' l' S))) : own_Fin p e below P (T.setTop (mkF m pc Ls (.int v :: S))) := by
 obtain ⟨hd, rfl⟩ := d
 exact own_go K fun t k => XS.istore X.here q.1 rfl (hb q.2 hd) rfl h k
theorem own_isn {k : Fin 4} {v : Int32} (X : Stand p l e R s m args below meth c T locs cells slots) (q : own_q p c b) (d : own_D b pc (.istore_n k) 1 pc') (h : storeLocals Ls k.val (.int v) = some l') (K : own_Fin p e below P (T.setTop (mkF m pc' l' S))) : own_Fin p e below P (T.setTop (mkF m pc Ls (.int v :: S))) := by
 obtain ⟨hd, rfl⟩ := d
 exact own_go K fun t k => XS.istoreN X.here q.1 rfl (hb q.2 hd) rfl h k
theorem own_as {k : Nat} {v : Value} (X : Stand p l e R s m args below meth c T locs cells slots) (q : own_q p c b) (d : own_D b pc (.astore k) 2 pc') (hv : v.isRef = true) (h : storeLocals Ls k v = some l') (K : own_Fin p e below P (T.setTop (mkF m pc' l' S))) : own_Fin p e below P (T.setTop (mkF m pc Ls (v :: S))) := by
 obtain ⟨hd, rfl⟩ := d
 exact own_go K fun t k => XS.astore X.here q.1 rfl (hb q.2 hd) rfl hv h k
theorem own_asn {k : Fin 4} {v : Value} (X : Stand p l e R s m args below meth c T locs cells slots) (q : own_q p c b) (d : own_D b pc (.astore_n k) 1 pc') (hv : v.isRef = true) (h : storeLocals Ls k.val v = some l') (K : own_Fin p e below P (T.setTop (mkF m pc' l' S))) : own_Fin p e below P (T.setTop (mkF m pc Ls (v :: S))) := by
 obtain ⟨hd, rfl⟩ := d
 exact own_go K fun t k => XS.astoreN X.here q.1 rfl (hb q.2 hd) rfl hv h k
theorem own_k {z : Int32} (X : Stand p l e R s m args below meth c T locs cells slots) (q : own_q p c b) (d : own_DK b pc z pc') (K : own_Fin p e below P (T.setTop (mkF m pc' Ls (.int z :: S)))) : own_Fin p e below P (T.setTop (mkF m pc Ls S)) := by
 rcases own_dkE d with ⟨i, hd, rfl, rfl⟩ | ⟨i, hd, rfl, rfl⟩ | ⟨i, hd, rfl, rfl⟩
 ·exact own_go K fun t k => XS.iconst X.here q.1 rfl (hb q.2 hd) k
 ·exact own_go K fun t k => XS.bipush X.here q.1 rfl (hb q.2 hd) k
 ·exact own_go K fun t k => XS.sipush X.here q.1 rfl (hb q.2 hd) k
theorem own_nl (X : Stand p l e R s m args below meth c T locs cells slots) (q : own_q p c b) (d : own_D b pc .aconst_null 1 pc') (K : own_Fin p e below P (T.setTop (mkF m pc' Ls (.null :: S)))) : own_Fin p e below P (T.setTop (mkF m pc Ls S)) := by
 obtain ⟨hd, rfl⟩ := d
 exact own_go K fun t k => XS.aconstNull X.here q.1 rfl (hb q.2 hd) k
theorem own_ii {k : Nat} {x z : Int32} (X : Stand p l e R s m args below meth c T locs cells slots) (q : own_q p c b) (d : own_DI b pc k z pc') (h : Ls[k]? = some (.val (.int x))) (h' : storeLocals Ls k (.int (x + z)) = some l') (K : own_Fin p e below P (T.setTop (mkF m pc' l' S))) : own_Fin p e below P (T.setTop (mkF m pc Ls S)) := by
 obtain ⟨i, hd, rfl, rfl⟩ := own_diE d
 exact own_go K fun t k => XS.iinc X.here q.1 rfl (hb q.2 hd) h h' k
theorem own_iik {k : Nat} {x y z : Int32} (X : Stand p l e R s m args below meth c T locs cells slots) (q : own_q p c b) (d : own_DI b pc k z pc') (h : Ls[k]? = some (.val (.int x))) (hy : x + z = y) (h' : storeLocals Ls k (.int y) = some l') (K : own_Fin p e below P (T.setTop (mkF m pc' l' S))) : own_Fin p e below P (T.setTop (mkF m pc Ls S)) := by
 subst hy; exact own_ii X q d h h' K
theorem own_dp {v : Value} (X : Stand p l e R s m args below meth c T locs cells slots) (q : own_q p c b) (d : own_D b pc .dup 1 pc') (hc : v.category = 1) (K : own_Fin p e below P (T.setTop (mkF m pc' Ls (v :: v :: S)))) : own_Fin p e below P (T.setTop (mkF m pc Ls (v :: S))) := by
 obtain ⟨hd, rfl⟩ := d
 exact own_go K fun t k => XS.dup X.here q.1 rfl (hb q.2 hd) rfl hc k
theorem own_isub {x y : Int32} (X : Stand p l e R s m args below meth c T locs cells slots) (q : own_q p c b) (d : own_D b pc .isub 1 pc') (K : own_Fin p e below P (T.setTop (mkF m pc' Ls (.int (x - y) :: S)))) : own_Fin p e below P (T.setTop (mkF m pc Ls (.int y :: .int x :: S))) := by
 obtain ⟨hd, rfl⟩ := d
 exact own_go K fun t k => XS.isub X.here q.1 rfl (hb q.2 hd) rfl k
theorem own_isubk (z : Int32) {x y : Int32} (X : Stand p l e R s m args below meth c T locs cells slots) (q : own_q p c b) (d : own_D b pc .isub 1 pc') (h : x - y = z) (K : own_Fin p e below P (T.setTop (mkF m pc' Ls (.int z :: S)))) : own_Fin p e below P (T.setTop (mkF m pc Ls (.int y :: .int x :: S))) := own_isub X q d (h.symm ▸ K)
theorem own_gt (X : Stand p l e R s m args below meth c T locs cells slots) (q : own_q p c b) (d : own_DG b pc t) (K : own_Fin p e below P (T.setTop (mkF m t Ls S))) : own_Fin p e below P (T.setTop (mkF m pc Ls S)) := by
 obtain ⟨o, hd, h1, h2⟩ := own_dgE d
 exact own_go K fun t k => XS.goto X.here q.1 rfl rfl (hb q.2 hd) h1 h2 k
theorem own_cy {cd : ClassFile.Cond} {x y : Int32} (X : Stand p l e R s m args below meth c T locs cells slots) (q : own_q p c b) (d : own_DJ b pc cd t n) (h : if_icmp.holds cd x y = true) (K : own_Fin p e below P (T.setTop (mkF m t Ls S))) : own_Fin p e below P (T.setTop (mkF m pc Ls (.int y :: .int x :: S))) := by
 obtain ⟨o, hd, h1, h2, -⟩ := own_djE d
 exact own_go K fun t k => XS.icmpYes X.here q.1 rfl rfl (hb q.2 hd) rfl h h1 h2 k
theorem own_cn {cd : ClassFile.Cond} {x y : Int32} (X : Stand p l e R s m args below meth c T locs cells slots) (q : own_q p c b) (d : own_DJ b pc cd t n) (h : if_icmp.holds cd x y = false) (K : own_Fin p e below P (T.setTop (mkF m n Ls S))) : own_Fin p e below P (T.setTop (mkF m pc Ls (.int y :: .int x :: S))) := by
 obtain ⟨o, hd, -, -, rfl⟩ := own_djE d
 exact own_go K fun t k => XS.icmpNo X.here q.1 rfl (hb q.2 hd) rfl h k
theorem own_zy {cd : ClassFile.Cond} {x : Int32} (X : Stand p l e R s m args below meth c T locs cells slots) (q : own_q p c b) (d : own_DZ b pc cd t n) (h : ifCond.holds cd x = true) (K : own_Fin p e below P (T.setTop (mkF m t Ls S))) : own_Fin p e below P (T.setTop (mkF m pc Ls (.int x :: S))) := by
 obtain ⟨o, hd, h1, h2, -⟩ := own_dzE d
 exact own_go K fun t k => XS.ifYes X.here q.1 rfl rfl (hb q.2 hd) rfl h h1 h2 k
theorem own_zn {cd : ClassFile.Cond} {x : Int32} (X : Stand p l e R s m args below meth c T locs cells slots) (q : own_q p c b) (d : own_DZ b pc cd t n) (h : ifCond.holds cd x = false) (K : own_Fin p e below P (T.setTop (mkF m n Ls S))) : own_Fin p e below P (T.setTop (mkF m pc Ls (.int x :: S))) := by
 obtain ⟨o, hd, -, -, rfl⟩ := own_dzE d
 exact own_go K fun t k => XS.ifNo X.here q.1 rfl (hb q.2 hd) rfl h k
end OwnC2
end OwnC
abbrev own_M (l : Launch) (Z : State) (ws : List Jvm.Cond) (y : MethodName) (b : ByteArray) (ml : Nat) (rt : Option FieldType) (R : Room) (A : Array Value) (h0 : Heap) (Q : Option Value → Heap → List Loc → Prop) : Prop := MetFree l y (head1 (Jvm.Cond.code y b ml rt :: ws) R) (fun a U => a = A ∧ Z.Warmed39 U.vm ∧ U.heap = h0) (fun _ _ _ _ _ => True) (fun _ U o U' => ∃ v L, o = .returned v ∧ Q v U'.heap L ∧ FrameEnd U o U' L R.cells R.slots)
theorem own_start {l : Launch} {Z : State} {ws : List Jvm.Cond} {y : MethodName} {b : ByteArray} {ml : Nat} {rt : Option FieldType} {R : Room} {A : Array Value} {h0 : Heap} {Q : Option Value → Heap → List Loc → Prop} {a0 : Array Value} {n0 : Nat} (hw : own_hw a0 Z) (own : String) {L : Array Slot} (pn : plainFor y = true)
  (H : ∀ {p : Program} {e : Env} {s : State} {m : MethodId} {below : List Frame} {meth : Method} {c : Code} {s₁ : State}, own_q p c b → p.tables.exec = Jvm.exec → (∀ (i : Nat) {d : Jvm.Cond}, tables_1[i]? = some d → d.before a0 Z = true) → c.maxLocals = ml → Z.Warmed39 s.vm → s.vm.findClass own = some m.cls → meth.name = y.name → meth.locks = false → meth.sig.returnType = rt → Stand p l e R s m A below meth c s₁ [] 0 0 → s₁.heap = h0 → Fr n0 [] → own_Fin p e below (own_P Q s R.cells R.slots) (s₁.setTop (mkF m 0 L [])))
  (ho : y.cls = own := by rfl) (hE : ∀ m, entryFrame m A ml = mkF m 0 L [] := by intro m; first | (simp [entryFrame, mkF, argsToLocals, Value.category]; done) | rfl) : own_M l Z ws y b ml rt R A h0 Q := by
 refine MetFree.of_bodySF pn hisR ?_
 intro p e s m args below meth c s₁ Bd hml0 hP hK
 obtain ⟨rfl, hZ, hh⟩ := hP
 have X0 : Stand p l e R s m args below meth c s₁ [] 0 0 := Stand.of_body Bd
 have e0 : s₁.heap = h0 := by rw [← hh, Bd.state]; rfl
 show own_Fin p e below (own_P Q s R.cells R.slots) (s₁.setTop (entryFrame m args ml))
 rw [hE m]
 exact H ⟨Bd.exec, Bd.bytes⟩ Bd.exec (own_w hw) hml0 hZ (ho ▸ findClass_of_methodNamed Bd.named) (name_of_methodNamed Bd.named Bd.method).1 (BodyLoose.notSynchronized Bd) Bd.returns X0 e0 (Fr.nil n0)
section OwnE
variable {p : Program} {l : Launch} {e : Env} {R : Room} {s : State} {m : MethodId} {args : Array Value} {below : List Frame} {meth : Method} {c : Code} {T : State} {locs : List Loc} {cells slots C S' : Nat} {b : ByteArray} {Ls : Array Slot} {S : List Value} {pc pc' : Nat} {t : FieldType} {Q : Option Value → Heap → List Loc → Prop}
theorem own_rA {a : Addr} (X : Stand p l e R s m args below meth c T locs cells slots) (q : own_q p c b) (hr : meth.sig.returnType = some t) (d : own_D b pc .areturn 1 pc') (hlk : meth.locks = false) (hc : cells ≤ C ∧ slots ≤ S') (hQ : Q (some (.ref a)) T.heap locs) (hn : narrow t (.ref a) = .ref a := by rfl) (ht : t.isReference = true := by rfl) : own_Fin p e below (own_P Q s C S') (T.setTop (mkF m pc Ls (.ref a :: S))) :=
 own_retO X q.1 hr hn (Or.inr (Or.inr (Or.inr (Or.inr ⟨rfl, ht, rfl⟩)))) (q.d d) hlk hQ hc.1 hc.2
theorem own_rI {z : Int32} (X : Stand p l e R s m args below meth c T locs cells slots) (q : own_q p c b) (hr : meth.sig.returnType = some .int) (d : own_D b pc .ireturn 1 pc') (hlk : meth.locks = false) (hc : cells ≤ C ∧ slots ≤ S') (hQ : Q (some (.int z)) T.heap locs) : own_Fin p e below (own_P Q s C S') (T.setTop (mkF m pc Ls (.int z :: S))) :=
 own_retO X q.1 hr rfl (Or.inl ⟨rfl, Or.inl rfl, _, rfl⟩) (q.d d) hlk hQ hc.1 hc.2
theorem own_rN {z : Int32} (X : Stand p l e R s m args below meth c T locs cells slots) (q : own_q p c b) (hr : meth.sig.returnType = some t) (ht : t = .boolean ∨ t = .byte ∨ t = .char ∨ t = .short) (d : own_D b pc .ireturn 1 pc') (hlk : meth.locks = false) (hc : cells ≤ C ∧ slots ≤ S') (hQ : Q (some (.int (nar t z))) T.heap locs) : own_Fin p e below (own_P Q s C S') (T.setTop (mkF m pc Ls (.int z :: S))) :=
 own_retN X q.1 hr ht (q.d d) hlk hQ hc.1 hc.2
theorem own_rV (X : Stand p l e R s m args below meth c T locs cells slots) (q : own_q p c b) (hr : meth.sig.returnType = none) (d : own_D b pc .return_ 1 pc') (hlk : meth.locks = false) (hc : cells ≤ C ∧ slots ≤ S') (hQ : Q none T.heap locs) : own_Fin p e below (own_P Q s C S') (T.setTop (mkF m pc Ls [])) :=
 own_retV X q.1 hr (q.d d) hlk hQ hc.1 hc.2
end OwnE
section OwnD
variable {p : Program} {l : Launch} {e : Env} {R : Room} {s : State} {m : MethodId} {args : Array Value} {below : List Frame} {meth : Method} {c : Code} {T : State} {locs : List Loc} {cells slots : Nat} {b : ByteArray} {P : Outcome → State → Prop} {Ls : Array Slot} {S : List Value} {pc pc' : Nat} {Z : State} {a0 : Array Value} {h : Heap}
theorem own_nv {v : Value} (K : own_Fin p e below P (T.setTop (mkF m pc Ls (v :: S)))) : own_Fin p e below P (T.setTop (mkF m pc Ls ((some v).toList ++ S))) := K
theorem own_nn (K : own_Fin p e below P (T.setTop (mkF m pc Ls S))) : own_Fin p e below P (T.setTop (mkF m pc Ls ((none : Option Value).toList ++ S))) := K
theorem own_cS {own : String} {index : Nat} {y : MethodName} {bytes : ByteArray} {maxL : Nat} {ret : Option FieldType} {rm : Room} {as' : Array Value} {Q : Option Value → Heap → List Loc → Prop} {ps : List FieldType} {r : Option FieldType}
  (X : Stand p l e R s m args below meth c T locs cells slots) (q : own_q p c b) (hZ : Z.Warmed39 s.vm) (eT : T.heap = h) (hown : s.vm.findClass own = some m.cls) {ml : Nat} (hml : c.maxLocals = ml) (w1 : (Jvm.Cond.methodLink own index y).before a0 Z = true) (w2 : (Jvm.Cond.static y).before a0 Z = true) (w3 : (Jvm.Cond.initialized y.cls).before a0 Z = true) (w4 : (Jvm.Cond.code y bytes maxL ret).before a0 Z = true)
  (hM : own_M l Z [] y bytes maxL ret rm as' h Q) (d : own_D b pc (.invokestatic index) 3 pc') (argsL rest : List Value) (pd : parseMethodDescriptor y.desc = some ⟨ps, r⟩) (hl : argsL.length = ps.length) (ha : argsL.toArray = as') (W : Nat) (hW : (rest.map fun v => v.category).sum ≤ W)
  (dec : (y.cls ≠ "java/lang/invoke/MethodHandle" ∧ y.cls ≠ "java/lang/invoke/VarHandle") ∧ rm.frames + 1 ≤ R.frames ∧ W + (maxL + 11) + rm.locals ≤ R.locals ∧ cells + rm.cells ≤ R.cells ∧ slots + rm.slots ≤ R.slots)
  (K : ∀ (v : Option Value) (T' : State) (L : List Loc), Stand p l e R s m args below meth c T' (locs ++ L) (cells + rm.cells) (slots + rm.slots) → Q v T'.heap L → own_Fin p e below P (T'.setTop (mkF m pc' Ls (v.toList ++ rest)))) (hs : Ls.size = ml := by rfl) :
  own_Fin p e below P (T.setTop (mkF m pc Ls (argsL.reverse ++ rest))) := by
 obtain ⟨hd, rfl⟩ := d
 obtain ⟨v, _, ⟨T', L', k', n'⟩, -, X', ⟨L, hQ, l1, l2, l3⟩, st⟩ := Jvm.LawKit.callS X q.1 (y := y) hown (mvT hZ w1) (mvT hZ w2) (mvT hZ w3) (mvT hZ w4) dec.1 (backOf (W := W) hM hZ w4 w3 dec.2.1 dec.2.2.1) (g := mkF m pc Ls (argsL.reverse ++ rest)) rfl (hs.trans hml.symm) (argsL := argsL) (rest := rest) (lenOf pd hl) rfl (by show 2 * 0 + _ ≤ _; omega) (hb q.2 hd) (fun _ _ => ⟨ha, eT, dec.2.2.2.1, dec.2.2.2.2⟩)
 dsimp only [Pt.U, Pt.locs, Pt.cells, Pt.slots] at X' l1 l2 l3 st hQ
 rw [l1, l2, l3] at X'
 exact own_go (K v T' L X' hQ) st
theorem own_cI {own : String} {index : Nat} {y : MethodName} {bytes : ByteArray} {maxL : Nat} {rm : Room} {as' : Array Value} {Q : Option Value → Heap → List Loc → Prop} {ps : List FieldType} {r : Option FieldType} {a : Addr}
  (X : Stand p l e R s m args below meth c T locs cells slots) (q : own_q p c b) (hZ : Z.Warmed39 s.vm) (eT : T.heap = h) (hown : s.vm.findClass own = some m.cls) {ml : Nat} (hml : c.maxLocals = ml) (w1 : (Jvm.Cond.methodLink own index y).before a0 Z = true) (w2 : (Jvm.Cond.instanceMethod y).before a0 Z = true) (w3 : (Jvm.Cond.initialized y.cls).before a0 Z = true) (w4 : (Jvm.Cond.code y bytes maxL none).before a0 Z = true)
  (hM : own_M l Z [] y bytes maxL none rm as' h Q) (d : own_D b pc (.invokespecial index) 3 pc') (argsL rest : List Value) (pd : parseMethodDescriptor y.desc = some ⟨ps, r⟩) (hl : argsL.length = ps.length) (ha : (Value.ref a :: argsL).toArray = as') (W : Nat) (hW : (rest.map fun v => v.category).sum ≤ W) (hy1 : y.name = "<init>")
  (dec : (y.cls ≠ "java/lang/invoke/MethodHandle" ∧ y.cls ≠ "java/lang/invoke/VarHandle") ∧ rm.frames + 1 ≤ R.frames ∧ W + (maxL + 11) + rm.locals ≤ R.locals ∧ cells + rm.cells ≤ R.cells ∧ slots + rm.slots ≤ R.slots)
  (K : ∀ (v : Option Value) (T' : State) (L : List Loc), Stand p l e R s m args below meth c T' (locs ++ L) (cells + rm.cells) (slots + rm.slots) → Q v T'.heap L → own_Fin p e below P (T'.setTop (mkF m pc' Ls (v.toList ++ rest)))) (hs : Ls.size = ml := by rfl) :
  own_Fin p e below P (T.setTop (mkF m pc Ls (argsL.reverse ++ .ref a :: rest))) := by
 obtain ⟨hd, rfl⟩ := d
 obtain ⟨v, _, ⟨T', L', k', n'⟩, -, X', ⟨L, hQ, l1, l2, l3⟩, st⟩ := X.specialBack q.1 (y := y) hy1 hown (mvT hZ w1) (mvT hZ w2) (mvT hZ w4) dec.1 (backOf (W := W) hM hZ w4 w3 dec.2.1 dec.2.2.1) (g := mkF m pc Ls (argsL.reverse ++ .ref a :: rest)) rfl (hs.trans hml.symm) (Steps.refl _) (a := a) (argsL := argsL) (rest := rest) (lenOf pd hl) rfl (by show 2 * 0 + _ ≤ _; omega) (hb q.2 hd) (fun _ _ => ⟨ha, eT, dec.2.2.2.1, dec.2.2.2.2⟩)
 dsimp only [Pt.U, Pt.locs, Pt.cells, Pt.slots] at X' l1 l2 l3 st hQ
 rw [l1, l2, l3] at X'
 exact own_go (K v T' L X' hQ) fun t k => st.trans k
theorem own_cV {own C : String} {index : Nat} {y z : MethodName} {bytes : ByteArray} {maxL : Nat} {ret : Option FieldType} {rm : Room} {as' : Array Value} {Q : Option Value → Heap → List Loc → Prop} {ps : List FieldType} {r : Option FieldType} {a : Addr}
  (X : Stand p l e R s m args below meth c T locs cells slots) (q : own_q p c b) (hZ : Z.Warmed39 s.vm) (eT : T.heap = h) (hown : s.vm.findClass own = some m.cls) {ml : Nat} (hml : c.maxLocals = ml) (w1 : (Jvm.Cond.methodLink own index y).before a0 Z = true) (w2 : (Jvm.Cond.declares y).before a0 Z = true) (w5 : (Jvm.Cond.selects C y z).before a0 Z = true) (w6 : (Jvm.Cond.instanceMethod z).before a0 Z = true) (w3 : (Jvm.Cond.initialized z.cls).before a0 Z = true) (w4 : (Jvm.Cond.code z bytes maxL ret).before a0 Z = true) (hzy : z = y) (E : Exa Z h a C)
  (hM : own_M l Z [] z bytes maxL ret rm as' h Q) (d : own_D b pc (.invokevirtual index) 3 pc') (argsL rest : List Value) (pd : parseMethodDescriptor y.desc = some ⟨ps, r⟩) (hl : argsL.length = ps.length) (ha : (Value.ref a :: argsL).toArray = as') (W : Nat) (hW : (rest.map fun v => v.category).sum ≤ W)
  (dec : (y.cls ≠ "java/lang/invoke/MethodHandle" ∧ y.cls ≠ "java/lang/invoke/VarHandle") ∧ rm.frames + 1 ≤ R.frames ∧ W + (maxL + 11) + rm.locals ≤ R.locals ∧ cells + rm.cells ≤ R.cells ∧ slots + rm.slots ≤ R.slots)
  (K : ∀ (v : Option Value) (T' : State) (L : List Loc), Stand p l e R s m args below meth c T' (locs ++ L) (cells + rm.cells) (slots + rm.slots) → Q v T'.heap L → own_Fin p e below P (T'.setTop (mkF m pc' Ls (v.toList ++ rest)))) (hs : Ls.size = ml := by rfl) :
  own_Fin p e below P (T.setTop (mkF m pc Ls (argsL.reverse ++ .ref a :: rest))) := by
 obtain ⟨hd, rfl⟩ := d
 subst hzy
 obtain ⟨cq, kq, qa, qb, qc⟩ := isOf hZ eT E
 obtain ⟨v, _, ⟨T', L', k', n'⟩, -, X', ⟨L, hQ, l1, l2, l3⟩, st⟩ := X.virtualBack q.1 hown (mvT hZ w1) (mvT hZ w2) (notFace_of_selects (args := #[]) (mvT hZ w5)) (mvT hZ w5) (mvT hZ w6) dec.1 (backOf (W := W) hM hZ w4 w3 dec.2.1 dec.2.2.1) qa qc (g := mkF m pc Ls (argsL.reverse ++ .ref a :: rest)) rfl (hs.trans hml.symm) (Steps.refl _) (argsL := argsL) (rest := rest) (lenOf pd hl) rfl (by show 2 * 0 + _ ≤ _; omega) (hb q.2 hd) (fun _ _ => ⟨ha, eT, dec.2.2.2.1, dec.2.2.2.2⟩)
 dsimp only [Pt.U, Pt.locs, Pt.cells, Pt.slots] at X' l1 l2 l3 st hQ
 rw [l1, l2, l3] at X'
 exact own_go (K v T' L X' hQ) fun t k => st.trans k
theorem own_cSh {own : String} {index : Nat} {y : MethodName} {bytes : ByteArray} {maxL : Nat} {ret : Option FieldType} {rm : Room} {as' : Array Value} {Q : Option Value → Heap → List Loc → Prop} {ps : List FieldType} {r : Option FieldType}
  (X : Stand p l e R s m args below meth c T locs cells slots) (q : own_q p c b) (hZ : Z.Warmed39 s.vm) (eT : T.heap = h) (hown : s.vm.findClass own = some m.cls) {ml : Nat} (hml : c.maxLocals = ml) (w1 : (Jvm.Cond.methodLink own index y).before a0 Z = true) (w2 : (Jvm.Cond.static y).before a0 Z = true) (w3 : (Jvm.Cond.initialized y.cls).before a0 Z = true) (w4 : (Jvm.Cond.code y bytes maxL ret).before a0 Z = true)
  (hM : own_M l Z [] y bytes maxL ret rm as' h Q) (d : own_D b pc (.invokestatic index) 3 pc') (argsL rest : List Value) (pd : parseMethodDescriptor y.desc = some ⟨ps, r⟩) (hl : argsL.length = ps.length) (ha : argsL.toArray = as') (W : Nat) (hW : (rest.map fun v => v.category).sum ≤ W)
  (dec : (y.cls ≠ "java/lang/invoke/MethodHandle" ∧ y.cls ≠ "java/lang/invoke/VarHandle") ∧ rm.frames + 1 ≤ R.frames ∧ W + (maxL + 11) + rm.locals ≤ R.locals ∧ cells + rm.cells ≤ R.cells ∧ slots + rm.slots ≤ R.slots)
  (K : ∀ (v : Option Value) (T' : State) (L : List Loc) (h' : Heap), T'.heap = h' → Stand p l e R s m args below meth c T' (locs ++ L) (cells + rm.cells) (slots + rm.slots) → Q v h' L → own_Fin p e below P (T'.setTop (mkF m pc' Ls (v.toList ++ rest)))) (hs : Ls.size = ml := by rfl) :
  own_Fin p e below P (T.setTop (mkF m pc Ls (argsL.reverse ++ rest))) :=
 own_cS X q hZ eT hown hml w1 w2 w3 w4 hM d argsL rest pd hl ha W hW dec (fun v T' L X' hQ => K v T' L _ rfl X' hQ) hs
theorem own_cIh {own : String} {index : Nat} {y : MethodName} {bytes : ByteArray} {maxL : Nat} {rm : Room} {as' : Array Value} {Q : Option Value → Heap → List Loc → Prop} {ps : List FieldType} {r : Option FieldType} {a : Addr}
  (X : Stand p l e R s m args below meth c T locs cells slots) (q : own_q p c b) (hZ : Z.Warmed39 s.vm) (eT : T.heap = h) (hown : s.vm.findClass own = some m.cls) {ml : Nat} (hml : c.maxLocals = ml) (w1 : (Jvm.Cond.methodLink own index y).before a0 Z = true) (w2 : (Jvm.Cond.instanceMethod y).before a0 Z = true) (w3 : (Jvm.Cond.initialized y.cls).before a0 Z = true) (w4 : (Jvm.Cond.code y bytes maxL none).before a0 Z = true)
  (hM : own_M l Z [] y bytes maxL none rm as' h Q) (d : own_D b pc (.invokespecial index) 3 pc') (argsL rest : List Value) (pd : parseMethodDescriptor y.desc = some ⟨ps, r⟩) (hl : argsL.length = ps.length) (ha : (Value.ref a :: argsL).toArray = as') (W : Nat) (hW : (rest.map fun v => v.category).sum ≤ W) (hy1 : y.name = "<init>")
  (dec : (y.cls ≠ "java/lang/invoke/MethodHandle" ∧ y.cls ≠ "java/lang/invoke/VarHandle") ∧ rm.frames + 1 ≤ R.frames ∧ W + (maxL + 11) + rm.locals ≤ R.locals ∧ cells + rm.cells ≤ R.cells ∧ slots + rm.slots ≤ R.slots)
  (K : ∀ (v : Option Value) (T' : State) (L : List Loc) (h' : Heap), T'.heap = h' → Stand p l e R s m args below meth c T' (locs ++ L) (cells + rm.cells) (slots + rm.slots) → Q v h' L → own_Fin p e below P (T'.setTop (mkF m pc' Ls (v.toList ++ rest)))) (hs : Ls.size = ml := by rfl) :
  own_Fin p e below P (T.setTop (mkF m pc Ls (argsL.reverse ++ .ref a :: rest))) :=
 own_cI X q hZ eT hown hml w1 w2 w3 w4 hM d argsL rest pd hl ha W hW hy1 dec (fun v T' L X' hQ => K v T' L _ rfl X' hQ) hs
theorem own_bld {a : Addr} {k : ClassId} {n : Int32} {vs : List Value} {dv v : Value} {j : Int32} (X : Stand p l e R s m args below meth c T locs cells slots) (q : own_q p c b) (hZ : Z.Warmed39 s.vm) (eT : T.heap = h) (V : Arv Z h a k .byte n vs dv) (d : own_D b pc .baload 1 pc') (hj : ¬ j < 0 ∧ j < n) (hv : vs.getD j.toNatClampNeg dv = v) (K : own_Fin p e below P (T.setTop (mkF m pc' Ls (v :: S)))) : own_Fin p e below P (T.setTop (mkF m pc Ls (.int j :: .ref a :: S))) := by
 obtain ⟨cl, Ar, _, S1, _, H, _⟩ := V
 obtain ⟨hd, rfl⟩ := d
 exact own_go K fun t k => X.baloadBytes q.1 (j := j) (v := v) (by rw [eT]; exact Ar.1) (State.isArrayOf_alike hZ.alike Ar.2.1) Ar.2.2 (inb_of S1 hj) (Has.at H (inb_of S1 hj) hv) (g := mkF m pc Ls (.int j :: .ref a :: S)) rfl rfl (hb q.2 hd) _ k
theorem own_bst {a : Addr} {k : ClassId} {n : Int32} {vs : List Value} {dv : Value} {j x : Int32} {n0 : Nat} (X : Stand p l e R s m args below meth c T locs cells slots) (q : own_q p c b) (hZ : Z.Warmed39 s.vm) (eT : T.heap = h) (V : Arv Z h a k .byte n vs dv) (d : own_D b pc .bastore 1 pc') (hj : ¬ j < 0 ∧ j < n) (hi : j.toNatClampNeg < vs.length) (N : Fr n0 locs) (ga : n0 ≤ a)
  (K : ∀ (T' : State) (h' : Heap), Stand p l e R s m args below meth c T' (locs ++ [⟨a, j.toNatClampNeg⟩]) cells slots → T'.heap = h' → Wr h h' a j.toNatClampNeg (.int (nar .byte x)) → Arv Z h' a k .byte n (vs.set j.toNatClampNeg (.int (nar .byte x))) dv → Fr n0 (locs ++ [⟨a, j.toNatClampNeg⟩]) → own_Fin p e below P (T'.setTop (mkF m pc' Ls S))) : own_Fin p e below P (T.setTop (mkF m pc Ls (.int x :: .int j :: .ref a :: S))) := by
 obtain ⟨cl, Ar, q1, S1, M1, H1, G1⟩ := V
 obtain ⟨hd, rfl⟩ := d
 obtain ⟨T', h', X', e', W', st⟩ := stB X q.1 hZ eT Ar (j := j) (x := x) (inb_of S1 hj) (g := mkF m pc Ls (.int x :: .int j :: .ref a :: S)) rfl rfl (hb q.2 hd)
 exact own_go (K T' h' X' e' W' (Arv.set Ar q1 S1 M1 H1 G1 (fits_nar_byte _) W' _ rfl hi) (Fr.snoc X' N ga)) st
theorem own_cld {a : Addr} {k : ClassId} {n : Int32} {vs : List Value} {dv v : Value} {j : Int32} (X : Stand p l e R s m args below meth c T locs cells slots) (q : own_q p c b) (hZ : Z.Warmed39 s.vm) (eT : T.heap = h) (V : Arv Z h a k .char n vs dv) (d : own_D b pc .caload 1 pc') (hj : ¬ j < 0 ∧ j < n) (hv : vs.getD j.toNatClampNeg dv = v) (K : own_Fin p e below P (T.setTop (mkF m pc' Ls (v :: S)))) : own_Fin p e below P (T.setTop (mkF m pc Ls (.int j :: .ref a :: S))) := by
 obtain ⟨cl, Ar, _, S1, _, H, _⟩ := V
 obtain ⟨hd, rfl⟩ := d
 exact own_go K fun t k => X.caload q.1 (j := j) (v := v) (by rw [eT]; exact Ar.1) (State.isArrayOf_alike hZ.alike Ar.2.1) Ar.2.2 (inb_of S1 hj) (Has.at H (inb_of S1 hj) hv) (g := mkF m pc Ls (.int j :: .ref a :: S)) rfl rfl (hb q.2 hd) _ k
theorem own_cst {a : Addr} {k : ClassId} {n : Int32} {vs : List Value} {dv : Value} {j x : Int32} {n0 : Nat} (X : Stand p l e R s m args below meth c T locs cells slots) (q : own_q p c b) (hZ : Z.Warmed39 s.vm) (eT : T.heap = h) (V : Arv Z h a k .char n vs dv) (d : own_D b pc .castore 1 pc') (hj : ¬ j < 0 ∧ j < n) (hi : j.toNatClampNeg < vs.length) (N : Fr n0 locs) (ga : n0 ≤ a)
  (K : ∀ (T' : State) (h' : Heap), Stand p l e R s m args below meth c T' (locs ++ [⟨a, j.toNatClampNeg⟩]) cells slots → T'.heap = h' → Wr h h' a j.toNatClampNeg (.int (nar .char x)) → Arv Z h' a k .char n (vs.set j.toNatClampNeg (.int (nar .char x))) dv → Fr n0 (locs ++ [⟨a, j.toNatClampNeg⟩]) → own_Fin p e below P (T'.setTop (mkF m pc' Ls S))) : own_Fin p e below P (T.setTop (mkF m pc Ls (.int x :: .int j :: .ref a :: S))) := by
 obtain ⟨cl, Ar, q1, S1, M1, H1, G1⟩ := V
 obtain ⟨hd, rfl⟩ := d
 obtain ⟨T', h', X', e', W', st⟩ := stC X q.1 hZ eT Ar (j := j) (x := x) (inb_of S1 hj) (g := mkF m pc Ls (.int x :: .int j :: .ref a :: S)) rfl rfl (hb q.2 hd)
 exact own_go (K T' h' X' e' W' (Arv.set Ar q1 S1 M1 H1 G1 (fits_nar_char _) W' _ rfl hi) (Fr.snoc X' N ga)) st
theorem own_i0 {a : Addr} {L : List Addr} {Q : Prop} : a ∈ a :: L ∨ Q := Or.inl (List.mem_cons_self ..)
theorem own_ne {a a' n : Nat} (h1 : a < n) (h2 : n ≤ a') : a ≠ a' := Nat.ne_of_lt (Nat.lt_of_lt_of_le h1 h2)
theorem own_alen {a : Addr} {k : ClassId} {ty : FieldType} {n : Int32} {vs : List Value} {dv : Value} (X : Stand p l e R s m args below meth c T locs cells slots) (q : own_q p c b) (hZ : Z.Warmed39 s.vm) (eT : T.heap = h) (V : Arv Z h a k ty n vs dv) (d : own_D b pc .arraylength 1 pc') (K : own_Fin p e below P (T.setTop (mkF m pc' Ls (.int n :: S)))) : own_Fin p e below P (T.setTop (mkF m pc Ls (.ref a :: S))) := by
 obtain ⟨cl, Ar, -, S1, M1, -, -⟩ := V
 obtain ⟨hd, rfl⟩ := d
 exact own_go K fun t k => X.arraylength q.1 (by rw [eT]; exact Ar.1) (State.isArrayOf_alike hZ.alike Ar.2.1) (g := mkF m pc Ls (.ref a :: S)) rfl rfl (hb q.2 hd) _ (by rw [len_of S1 M1]; exact k)
theorem own_gF {own O n d : String} {index : Nat} {a : Addr} {v : Value} (X : Stand p l e R s m args below meth c T locs cells slots) (q : own_q p c b) (hZ : Z.Warmed39 s.vm) (eT : T.heap = h) (hown : s.vm.findClass own = some m.cls) (w : (Jvm.Cond.fieldLink own index O n d).before a0 Z = true) (F : Fld Z h a O n d v) (dd : own_D b pc (.getfield index) 3 pc') (K : ∀ T' : State, Stand p l e R s m args below meth c T' locs cells slots → T'.heap = h → own_Fin p e below P (T'.setTop (mkF m pc' Ls (v :: S)))) : own_Fin p e below P (T.setTop (mkF m pc Ls (.ref a :: S))) := by
 obtain ⟨hd, rfl⟩ := dd
 obtain ⟨T', X', e', st⟩ := getF X q.1 hZ hown (host := "") (Or.inl w) Via.refl eT F (g := mkF m pc Ls (.ref a :: S)) rfl rfl (hb q.2 hd)
 exact own_go (K T' X' e') st
theorem own_gS {own O n d : String} {index : Nat} {v : Value} (X : Stand p l e R s m args below meth c T locs cells slots) (q : own_q p c b) (hZ : Z.Warmed39 s.vm) (eT : T.heap = h) (hown : s.vm.findClass own = some m.cls) (w : (Jvm.Cond.fieldLink own index O n d).before a0 Z = true) (F : Sta Z h O n d v) (dd : own_D b pc (.getstatic index) 3 pc') (K : ∀ T' : State, Stand p l e R s m args below meth c T' locs cells slots → T'.heap = h → own_Fin p e below P (T'.setTop (mkF m pc' Ls (v :: S)))) : own_Fin p e below P (T.setTop (mkF m pc Ls S)) := by
 obtain ⟨hd, rfl⟩ := dd
 obtain ⟨T', X', e', st⟩ := getS2 X q.1 hZ hown (host := "") (Or.inl w) Via.refl eT F (g := mkF m pc Ls S) rfl (hb q.2 hd)
 exact own_go (K T' X' e') st
end OwnD
theorem own_extK {h0 h : Heap} (K : Keep h0 h []) : Ext h0 h := ⟨K.1, fun a c q => K.2.1 a c q nin0⟩
theorem own_c255 (x : Int32) : ¬ (255 : Int32) < ((x &&& (255 : Int32)).toUInt32.toUInt16.toUInt32.toInt32) := by
 rw [i2c_mask]
 have := c_and x 255 (by decide)
 rw [Int32.lt_iff_toInt_lt]
 have e : (255 : Int32).toInt = 255 := rfl
 omega
section OwnH
variable {p : Program} {l : Launch} {e : Env} {R : Room} {s : State} {args : Array Value} {below : List Frame} {Z : State} {a0 : Array Value} {EL : List (String × Nat)} {h : Heap} {vm0 : Vm}
theorem own_backH {y : MethodName} {bytes : ByteArray} {maxL : Nat} {ret : Option FieldType} {rm : Room} {len W : Nat} {as' : Array Value} {Q : Option Value → Heap → List Loc → Prop}
  (hM : MetFree l y (head1 [Jvm.Cond.code y bytes maxL ret] rm) (fun a U => a = as' ∧ Z.Warmed39 U.vm ∧ U.heap = h ∧ CHv Z EL U.vm h) (fun _ _ _ _ _ => True) (fun _ U o U' => ∃ v L, o = .returned v ∧ Q v U'.heap L ∧ ReturnedEndW U o U' L rm.cells rm.slots))
  (hZ : Z.Warmed39 vm0) (wc : (Jvm.Cond.code y bytes maxL ret).before a0 Z = true) (wz : (Jvm.Cond.initialized y.cls).before a0 Z = true) (hf : rm.frames + 1 ≤ R.frames) (hl : W + (maxL + 11) + rm.locals ≤ R.locals) (hEL : EW Z a0 EL) (H : CHv Z EL vm0 h) :
  BackS l R p e below (s.setVm vm0) args y len W (fun A a => a = as' ∧ A.U.heap = h ∧ A.cells + rm.cells ≤ R.cells ∧ A.slots + rm.slots ≤ R.slots)
   (fun A _ v B => ∃ L, Q v B.U.heap L ∧ B.locs = A.locs ++ L ∧ B.cells = A.cells + rm.cells ∧ B.slots = A.slots + rm.slots) := by
 refine BackS.of_freeW (bytes := bytes) (maxL := maxL) (ret := ret) (E := fun _ _ o t L k n => k = rm.cells ∧ n = rm.slots ∧ ∃ v, o = .returned v ∧ Q v t.heap L) hM hf hl ?_ ?_ (fun _ _ _ _ _ _ _ _ _ => trivial) ?_ ?_
 ·intro m meth c A a Y hp
  have hU : Z.Warmed39 A.U.vm := wtrans (s := s.setVm vm0) hZ Y.warmed
  refine ⟨?_, mv hU wc, mv hU wz, hp.2.2.1, hp.2.2.2⟩
  show (Jvm.Cond.and _ .tt).before a A.U = true
  rw [Cond.before_and, mv hU wc]; rfl
 ·intro m meth c A a g mk Y hp
  exact ⟨hp.1, wtrans (s := s.setVm vm0) hZ Y.warmed, hp.2.1, (CHv.at Y hZ hEL H).1⟩
 ·intro _ _ _ _ hq
  obtain ⟨v, L, h1, h2, h3⟩ := hq
  exact ⟨L, _, _, h3, rfl, rfl, v, h1, h2⟩
 ·intro m meth c A a g mk v t L k n Y hp _ _ hq
  obtain ⟨e1, e2, v', e3, e4⟩ := hq
  cases e3; subst e1 e2
  exact ⟨L, e4, rfl, rfl, rfl⟩
end OwnH
def own_draw (x : Int32) : Int32 := if x &&& 3 = 0 then 42 else if x &&& 3 = 1 then 63 else nar .char (((x.toUInt32 >>> ((2 : Int32) &&& 31).toUInt32).toInt32 &&& (255 : Int32)).toUInt32.toUInt16.toUInt32.toInt32)
theorem own_drawI (x : Int32) : 0 ≤ (own_draw x).toInt ∧ (own_draw x).toInt ≤ 255 := by
 unfold own_draw
 by_cases h : x &&& 3 = 0
 ·rw [if_pos h]; decide
 ·rw [if_neg h]
  by_cases h2 : x &&& 3 = 1
  ·rw [if_pos h2]; decide
  ·rw [if_neg h2, i2c_mask]
   have a := c_and ((x.toUInt32 >>> ((2 : Int32) &&& 31).toUInt32).toInt32) 255 (by decide)
   generalize ((x.toUInt32 >>> ((2 : Int32) &&& 31).toUInt32).toInt32) &&& (255 : Int32) = y at a
   have e : (255 : Int32).toInt = 255 := rfl
   have b := c_i2c y
   have q : nar .char y = y.toUInt32.toUInt16.toUInt32.toInt32 := rfl
   rw [q]
   omega
def own_c8 (x : Int32) : Prop := 0 ≤ x.toInt ∧ x.toInt ≤ 255
theorem own_nc {x : Int32} (h : own_c8 x) : nar .char x = x := by
 have b := c_i2c x
 have q : nar .char x = x.toUInt32.toUInt16.toUInt32.toInt32 := rfl
 unfold own_c8 at h
 rw [q, ← Int32.toInt_inj]; omega
theorem own_le255 {x : Int32} (h : own_c8 x) : ¬ (255 : Int32) < x := by
 rw [Int32.lt_iff_toInt_lt]; have e : (255 : Int32).toInt = 255 := rfl
 unfold own_c8 at h; omega
def own_by (x : Int32) : Int32 := nar .byte (x.toInt8.toInt32)
theorem own_byI {x : Int32} (h : own_c8 x) : ((42 : Int32) = own_by x ↔ x = 42) ∧ ((63 : Int32) = own_by x ↔ x = 63) := by
 have b := c_i2b x
 have b2 := c_i2b (x.toInt8.toInt32)
 have q : own_by x = (x.toInt8.toInt32).toInt8.toInt32 := rfl
 unfold own_c8 at h
 have e1 : (42 : Int32).toInt = 42 := rfl
 have e2 : (63 : Int32).toInt = 63 := rfl
 rw [q]
 simp only [← Int32.toInt_inj]
 constructor <;> constructor <;> intro r <;> omega
theorem own_len5 (n : Int32) : ((n &&& (2147483647 : Int32)) % (5 : Int32)) = 0 ∨ ((n &&& (2147483647 : Int32)) % (5 : Int32)) = 1 ∨ ((n &&& (2147483647 : Int32)) % (5 : Int32)) = 2 ∨ ((n &&& (2147483647 : Int32)) % (5 : Int32)) = 3 ∨ ((n &&& (2147483647 : Int32)) % (5 : Int32)) = 4 := by
 have a := c_and n 2147483647 (by decide)
 have r := c_irem (n &&& 2147483647) 5 5 rfl
 have e0 : (0 : Int32).toInt = 0 := rfl
 have e1 : (1 : Int32).toInt = 1 := rfl
 have e2 : (2 : Int32).toInt = 2 := rfl
 have e3 : (3 : Int32).toInt = 3 := rfl
 have e4 : (4 : Int32).toInt = 4 := rfl
 simp only [← Int32.toInt_inj]
 omega
def own_yes (M : Prop) (z : Int32) : Prop := (z = 1 ∧ M) ∨ (z = 0 ∧ ¬ M)
def own_min (a b : Int32) : Int32 := if b < a then b else a
def own_max (a b : Int32) : Int32 := if a < b then b else a
theorem own_d8 {x z : Int32} (h : own_draw x = z) : own_c8 z := by subst h; exact own_drawI x
theorem own_nc8 {x : Int32} (h : own_c8 x) : own_c8 (nar .char x) := by rw [own_nc h]; exact h
theorem own_b42 {x : Int32} (h : own_c8 x) : ((42 : Int32) = nar .byte ((nar .char x).toInt8.toInt32)) ↔ x = 42 := by rw [own_nc h]; exact (own_byI h).1
theorem own_b63 {x : Int32} (h : own_c8 x) : ((63 : Int32) = nar .byte ((nar .char x).toInt8.toInt32)) ↔ x = 63 := by rw [own_nc h]; exact (own_byI h).2
theorem own_w0 {M : Prop} {z : Int32} (h : own_yes M z) (q : z = 0) : ¬ M := h.elim (fun r => absurd (r.1.symm.trans q) (by decide)) (fun r => r.2)
theorem own_w1 {M : Prop} {z : Int32} (h : own_yes M z) (q : ¬ z = 0) : M := h.elim (fun r => r.2) (fun r => absurd r.1 q)
abbrev own_y0 : MethodName := (⟨"com/example/endpoint/endpoint/maven/PathPatternIsPatternPinLaw", "draw", "(I)C"⟩ : MethodName)
abbrev own_y1 : MethodName := (⟨"com/example/endpoint/endpoint/maven/PathPatternIsPatternPinLaw", "wild", "(C)Z"⟩ : MethodName)
abbrev own_y2 : MethodName := (⟨"java/lang/Math", "min", "(II)I"⟩ : MethodName)
abbrev own_y3 : MethodName := (⟨"java/lang/Math", "max", "(II)I"⟩ : MethodName)
abbrev own_y4 : MethodName := (⟨"java/lang/StringUTF16", "compress", "([CI[BII)I"⟩ : MethodName)
abbrev own_y5 : MethodName := (⟨"java/lang/StringUTF16", "compress", "([CII)[B"⟩ : MethodName)
abbrev own_y6 : MethodName := (⟨"java/lang/StringUTF16", "coderFromArrayLen", "([BI)B"⟩ : MethodName)
abbrev own_y7 : MethodName := (⟨"java/lang/String", "<init>", "([CIILjava/lang/Void;)V"⟩ : MethodName)
abbrev own_y8 : MethodName := (⟨"java/lang/String", "<init>", "([C)V"⟩ : MethodName)
abbrev own_y9 : MethodName := (⟨"java/lang/StringLatin1", "canEncode", "(I)Z"⟩ : MethodName)
abbrev own_y10 : MethodName := (⟨"java/lang/String", "isLatin1", "()Z"⟩ : MethodName)
abbrev own_y11 : MethodName := (⟨"java/lang/String", "coder", "()B"⟩ : MethodName)
abbrev own_y12 : MethodName := (⟨"java/lang/String", "length", "()I"⟩ : MethodName)
abbrev own_y13 : MethodName := (⟨"java/lang/StringLatin1", "indexOf", "([BIII)I"⟩ : MethodName)
abbrev own_y14 : MethodName := (⟨"java/lang/String", "indexOf", "(II)I"⟩ : MethodName)
abbrev own_y15 : MethodName := (⟨"java/lang/String", "indexOf", "(I)I"⟩ : MethodName)
abbrev own_y16 : MethodName := (⟨"com/example/endpoint/endpoint/maven/PathPattern", "isPattern", "(Ljava/lang/String;)Z"⟩ : MethodName)
abbrev own_y17 : MethodName := (⟨"java/lang/StringLatin1", "indexOfChar", "([BIII)I"⟩ : MethodName)
def QI (z : Int32) (h0 : Heap) (n0 : Nat) (v : Option Value) (h : Heap) (L : List Loc) : Prop := v = some (.int z) ∧ Fr n0 L ∧ h = h0
def QM (M : Prop) (h0 : Heap) (n0 : Nat) (v : Option Value) (h : Heap) (L : List Loc) : Prop := ∃ z : Int32, v = some (.int z) ∧ Fr n0 L ∧ h = h0 ∧ own_yes M z
def QIX (M : Prop) (h0 : Heap) (n0 : Nat) (v : Option Value) (h : Heap) (L : List Loc) : Prop := ∃ z : Int32, v = some (.int z) ∧ Fr n0 L ∧ h = h0 ∧ ((¬ z < 0 ∧ M) ∨ (z < 0 ∧ ¬ M))
def QC1a (Z : State) (b : Addr) (k2 : ClassId) (x0 : Int32) (h0 : Heap) (n0 : Nat) (v : Option Value) (h : Heap) (L : List Loc) : Prop := v = some v'1 ∧ Fr n0 L ∧ Keep h0 h [b] ∧ Arv Z h b k2 .byte (1 : Int32) [(.int (nar .byte (x0.toInt8.toInt32)))] v'0
def QC1b (Z : State) (x0 : Int32) (h0 : Heap) (n0 : Nat) (v : Option Value) (h : Heap) (L : List Loc) : Prop := ∃ (b : Addr) (k : ClassId), v = some (.ref b) ∧ Fr n0 L ∧ Ext h0 h ∧ h0.size ≤ b ∧ Arv Z h b k .byte (1 : Int32) [(.int (nar .byte (x0.toInt8.toInt32)))] v'0
def QI1 (Z : State) (a1 : Addr) (x0 : Int32) (h0 : Heap) (n0 : Nat) (v : Option Value) (h : Heap) (L : List Loc) : Prop := ∃ (t : Addr) (k : ClassId), v = none ∧ Fr n0 L ∧ Keep h0 h [a1] ∧ F'1 Z h a1 (.ref t) ∧ F'0 Z h a1 v'0 ∧ Arv Z h t k .byte (1 : Int32) [(.int (nar .byte (x0.toInt8.toInt32)))] v'0
def QC2a (Z : State) (b : Addr) (k2 : ClassId) (x0 x1 : Int32) (h0 : Heap) (n0 : Nat) (v : Option Value) (h : Heap) (L : List Loc) : Prop := v = some v'2 ∧ Fr n0 L ∧ Keep h0 h [b] ∧ Arv Z h b k2 .byte (2 : Int32) [(.int (nar .byte (x0.toInt8.toInt32))), (.int (nar .byte (x1.toInt8.toInt32)))] v'0
def QC2b (Z : State) (x0 x1 : Int32) (h0 : Heap) (n0 : Nat) (v : Option Value) (h : Heap) (L : List Loc) : Prop := ∃ (b : Addr) (k : ClassId), v = some (.ref b) ∧ Fr n0 L ∧ Ext h0 h ∧ h0.size ≤ b ∧ Arv Z h b k .byte (2 : Int32) [(.int (nar .byte (x0.toInt8.toInt32))), (.int (nar .byte (x1.toInt8.toInt32)))] v'0
def QI2 (Z : State) (a1 : Addr) (x0 x1 : Int32) (h0 : Heap) (n0 : Nat) (v : Option Value) (h : Heap) (L : List Loc) : Prop := ∃ (t : Addr) (k : ClassId), v = none ∧ Fr n0 L ∧ Keep h0 h [a1] ∧ F'1 Z h a1 (.ref t) ∧ F'0 Z h a1 v'0 ∧ Arv Z h t k .byte (2 : Int32) [(.int (nar .byte (x0.toInt8.toInt32))), (.int (nar .byte (x1.toInt8.toInt32)))] v'0
def QC3a (Z : State) (b : Addr) (k2 : ClassId) (x0 x1 x2 : Int32) (h0 : Heap) (n0 : Nat) (v : Option Value) (h : Heap) (L : List Loc) : Prop := v = some v'3 ∧ Fr n0 L ∧ Keep h0 h [b] ∧ Arv Z h b k2 .byte (3 : Int32) [(.int (nar .byte (x0.toInt8.toInt32))), (.int (nar .byte (x1.toInt8.toInt32))), (.int (nar .byte (x2.toInt8.toInt32)))] v'0
def QC3b (Z : State) (x0 x1 x2 : Int32) (h0 : Heap) (n0 : Nat) (v : Option Value) (h : Heap) (L : List Loc) : Prop := ∃ (b : Addr) (k : ClassId), v = some (.ref b) ∧ Fr n0 L ∧ Ext h0 h ∧ h0.size ≤ b ∧ Arv Z h b k .byte (3 : Int32) [(.int (nar .byte (x0.toInt8.toInt32))), (.int (nar .byte (x1.toInt8.toInt32))), (.int (nar .byte (x2.toInt8.toInt32)))] v'0
def QI3 (Z : State) (a1 : Addr) (x0 x1 x2 : Int32) (h0 : Heap) (n0 : Nat) (v : Option Value) (h : Heap) (L : List Loc) : Prop := ∃ (t : Addr) (k : ClassId), v = none ∧ Fr n0 L ∧ Keep h0 h [a1] ∧ F'1 Z h a1 (.ref t) ∧ F'0 Z h a1 v'0 ∧ Arv Z h t k .byte (3 : Int32) [(.int (nar .byte (x0.toInt8.toInt32))), (.int (nar .byte (x1.toInt8.toInt32))), (.int (nar .byte (x2.toInt8.toInt32)))] v'0
def QC4a (Z : State) (b : Addr) (k2 : ClassId) (x0 x1 x2 x3 : Int32) (h0 : Heap) (n0 : Nat) (v : Option Value) (h : Heap) (L : List Loc) : Prop := v = some v'4 ∧ Fr n0 L ∧ Keep h0 h [b] ∧ Arv Z h b k2 .byte (4 : Int32) [(.int (nar .byte (x0.toInt8.toInt32))), (.int (nar .byte (x1.toInt8.toInt32))), (.int (nar .byte (x2.toInt8.toInt32))), (.int (nar .byte (x3.toInt8.toInt32)))] v'0
def QC4b (Z : State) (x0 x1 x2 x3 : Int32) (h0 : Heap) (n0 : Nat) (v : Option Value) (h : Heap) (L : List Loc) : Prop := ∃ (b : Addr) (k : ClassId), v = some (.ref b) ∧ Fr n0 L ∧ Ext h0 h ∧ h0.size ≤ b ∧ Arv Z h b k .byte (4 : Int32) [(.int (nar .byte (x0.toInt8.toInt32))), (.int (nar .byte (x1.toInt8.toInt32))), (.int (nar .byte (x2.toInt8.toInt32))), (.int (nar .byte (x3.toInt8.toInt32)))] v'0
def QI4 (Z : State) (a1 : Addr) (x0 x1 x2 x3 : Int32) (h0 : Heap) (n0 : Nat) (v : Option Value) (h : Heap) (L : List Loc) : Prop := ∃ (t : Addr) (k : ClassId), v = none ∧ Fr n0 L ∧ Keep h0 h [a1] ∧ F'1 Z h a1 (.ref t) ∧ F'0 Z h a1 v'0 ∧ Arv Z h t k .byte (4 : Int32) [(.int (nar .byte (x0.toInt8.toInt32))), (.int (nar .byte (x1.toInt8.toInt32))), (.int (nar .byte (x2.toInt8.toInt32))), (.int (nar .byte (x3.toInt8.toInt32)))] v'0
def QI0 (Z : State) (a1 : Addr) (h0 : Heap) (n0 : Nat) (v : Option Value) (h : Heap) (L : List Loc) : Prop := ∃ (t : Addr) (k : ClassId), v = none ∧ Fr n0 L ∧ Keep h0 h [a1] ∧ F'1 Z h a1 (.ref t) ∧ F'0 Z h a1 v'0 ∧ Arv Z h t k .byte (0 : Int32) [] v'0
def Q0 (n0 : Nat) (v : Option Value) (h : Heap) (L : List Loc) : Prop := v = some (.int 1) ∧ Fr n0 L
theorem own_pd0 : parseMethodDescriptor "([CI[BII)I" = some ⟨[(.array .char), .int, (.array .byte), .int, .int], some .int⟩ := by decide +kernel
theorem own_pd1 : parseMethodDescriptor "([CII)[B" = some ⟨[(.array .char), .int, .int], some (.array .byte)⟩ := by decide +kernel
theorem own_pd2 : parseMethodDescriptor "([BI)B" = some ⟨[(.array .byte), .int], some .byte⟩ := by decide +kernel
theorem own_pd3 : parseMethodDescriptor "([CIILjava/lang/Void;)V" = some ⟨[(.array .char), .int, .int, (.object "java/lang/Void")], none⟩ := by decide +kernel
theorem own_pd4 : parseMethodDescriptor "()B" = some ⟨[], some .byte⟩ := by decide +kernel
theorem own_pd5 : parseMethodDescriptor "(I)Z" = some ⟨[.int], some .boolean⟩ := by decide +kernel
theorem own_pd6 : parseMethodDescriptor "(II)I" = some ⟨[.int, .int], some .int⟩ := by decide +kernel
theorem own_pd7 : parseMethodDescriptor "()Z" = some ⟨[], some .boolean⟩ := by decide +kernel
theorem own_pd8 : parseMethodDescriptor "()I" = some ⟨[], some .int⟩ := by decide +kernel
theorem own_pd9 : parseMethodDescriptor "([BIII)I" = some ⟨[(.array .byte), .int, .int, .int], some .int⟩ := by decide +kernel
theorem own_pd10 : parseMethodDescriptor "(I)I" = some ⟨[.int], some .int⟩ := by decide +kernel
theorem own_pd11 : parseMethodDescriptor "(I)C" = some ⟨[.int], some .char⟩ := by decide +kernel
theorem own_pd12 : parseMethodDescriptor "([C)V" = some ⟨[(.array .char)], none⟩ := by decide +kernel
theorem own_pd13 : parseMethodDescriptor "(Ljava/lang/String;)Z" = some ⟨[(.object "java/lang/String")], some .boolean⟩ := by decide +kernel
theorem own_pd14 : parseMethodDescriptor "(C)Z" = some ⟨[.char], some .boolean⟩ := by decide +kernel
theorem d1_0 : own_D b'1 0 (.iload_n 0) 1 1 := by decide +kernel
theorem d1_1 : own_DK b'1 1 3 2 := by decide +kernel
theorem d1_2 : own_D b'1 2 .iand 1 3 := by decide +kernel
theorem d1_3 : own_D b'1 3 (.istore_n 1) 1 4 := by decide +kernel
theorem d1_4 : own_D b'1 4 (.iload_n 1) 1 5 := by decide +kernel
theorem d1_5 : own_DZ b'1 5 .ne 11 8 := by decide +kernel
theorem d1_8 : own_DK b'1 8 42 10 := by decide +kernel
theorem d1_10 : own_D b'1 10 .ireturn 1 11 := by decide +kernel
theorem d1_11 : own_D b'1 11 (.iload_n 1) 1 12 := by decide +kernel
theorem d1_12 : own_DK b'1 12 1 13 := by decide +kernel
theorem d1_13 : own_DJ b'1 13 .ne 19 16 := by decide +kernel
theorem d1_16 : own_DK b'1 16 63 18 := by decide +kernel
theorem d1_18 : own_D b'1 18 .ireturn 1 19 := by decide +kernel
theorem d1_19 : own_D b'1 19 (.iload_n 0) 1 20 := by decide +kernel
theorem d1_20 : own_DK b'1 20 2 21 := by decide +kernel
theorem d1_21 : own_D b'1 21 .iushr 1 22 := by decide +kernel
theorem d1_22 : own_DK b'1 22 255 25 := by decide +kernel
theorem d1_25 : own_D b'1 25 .iand 1 26 := by decide +kernel
theorem d1_26 : own_D b'1 26 .i2c 1 27 := by decide +kernel
theorem d1_27 : own_D b'1 27 .ireturn 1 28 := by decide +kernel
theorem pn_1 : plainFor (⟨"com/example/endpoint/endpoint/maven/PathPatternIsPatternPinLaw", "draw", "(I)C"⟩ : MethodName) = true := plainFor_of_name (by first | (simp [plainName, overriddenIn]; done) | decide +kernel)
theorem rm1 (l : Launch) (Z : State) (a0 : Array Value) (hw : own_hw a0 Z) (p1 : Int32) (z : Int32) (h0 : Heap) (n0 : Nat) (Z0 : n0 ≤ h0.size) (hz : own_draw p1 = z) :
  own_M l Z [] own_y0 b'1 2 (some .char) ⟨0, 0, 0, 0⟩ #[(.int p1)] h0 (QI z h0 n0) := by
 refine own_start (n0 := n0) hw "com/example/endpoint/endpoint/maven/PathPatternIsPatternPinLaw" (L := #[.val (.int p1), .unset]) pn_1 (fun {p e s m below meth c s₁} q hx W hml hZ hown hnm hlk hrt X0 e0 N0 => ?_)
 refine own_iln X0 q d1_0 rfl (own_k X0 q d1_1 (own_stp 3 (fun _ k => XS.iand X0.here hx rfl (q.d d1_2) rfl k) (own_isn X0 q d1_3 (l' := #[.val (.int p1), .val (.int (p1 &&& (3 : Int32)))]) rfl (own_iln X0 q d1_4 rfl ?_))))
 by_cases hc5_3 : (p1 &&& (3 : Int32)) = (0 : Int32)
 ·refine own_zn X0 q d1_5 (((if0 _ _).trans (teq hc5_3).2)) (own_k X0 q d1_8 ?_)
  refine own_rN X0 q hrt (by simp) d1_10 hlk (by decide) ?_
  show QI z h0 n0 _ s₁.heap _
  rw [e0]
  exact ⟨by rw [← hz]; simp [own_draw, hc5_3]; try rfl, N0, rfl⟩
 ·refine own_zy X0 q d1_5 (((if0 _ _).trans (feq hc5_3).2)) (own_iln X0 q d1_11 rfl (own_k X0 q d1_12 ?_))
  by_cases hc13_4 : (p1 &&& (3 : Int32)) = (1 : Int32)
  ·refine own_cn X0 q d1_13 ((teq hc13_4).2) (own_k X0 q d1_16 ?_)
   refine own_rN X0 q hrt (by simp) d1_18 hlk (by decide) ?_
   show QI z h0 n0 _ s₁.heap _
   rw [e0]
   exact ⟨by rw [← hz]; simp [own_draw, hc5_3, hc13_4]; try rfl, N0, rfl⟩
  ·refine own_cy X0 q d1_13 ((feq hc13_4).2) (own_iln X0 q d1_19 rfl (own_k X0 q d1_20 (own_stp 22 (fun _ k => XS.iushr X0.here hx rfl (q.d d1_21) rfl k) (own_k X0 q d1_22 (own_stp 26 (fun _ k => XS.iand X0.here hx rfl (q.d d1_25) rfl k) (own_stp 27 (fun _ k => XS.i2c X0.here hx rfl (q.d d1_26) rfl k) ?_))))))
   refine own_rN X0 q hrt (by simp) d1_27 hlk (by decide) ?_
   show QI z h0 n0 _ s₁.heap _
   rw [e0]
   exact ⟨by rw [← hz]; simp [own_draw, hc5_3, hc13_4]; try rfl, N0, rfl⟩
theorem d18_0 : own_D b'18 0 (.iload_n 0) 1 1 := by decide +kernel
theorem d18_1 : own_DK b'18 1 42 3 := by decide +kernel
theorem d18_3 : own_DJ b'18 3 .eq 12 6 := by decide +kernel
theorem d18_6 : own_D b'18 6 (.iload_n 0) 1 7 := by decide +kernel
theorem d18_7 : own_DK b'18 7 63 9 := by decide +kernel
theorem d18_9 : own_DJ b'18 9 .ne 16 12 := by decide +kernel
theorem d18_12 : own_DK b'18 12 1 13 := by decide +kernel
theorem d18_13 : own_DG b'18 13 17 := by decide +kernel
theorem d18_16 : own_DK b'18 16 0 17 := by decide +kernel
theorem d18_17 : own_D b'18 17 .ireturn 1 18 := by decide +kernel
theorem pn_18 : plainFor (⟨"com/example/endpoint/endpoint/maven/PathPatternIsPatternPinLaw", "wild", "(C)Z"⟩ : MethodName) = true := plainFor_of_name (by first | (simp [plainName, overriddenIn]; done) | decide +kernel)
theorem rm18 (l : Launch) (Z : State) (a0 : Array Value) (hw : own_hw a0 Z) (p1 : Int32)  (h0 : Heap) (n0 : Nat) (Z0 : n0 ≤ h0.size) :
  own_M l Z [] own_y1 b'18 1 (some .boolean) ⟨0, 0, 0, 0⟩ #[(.int p1)] h0 (QM (p1 = 42 ∨ p1 = 63) h0 n0) := by
 refine own_start (n0 := n0) hw "com/example/endpoint/endpoint/maven/PathPatternIsPatternPinLaw" (L := #[.val (.int p1)]) pn_18 (fun {p e s m below meth c s₁} q hx W hml hZ hown hnm hlk hrt X0 e0 N0 => ?_)
 refine own_iln X0 q d18_0 rfl (own_k X0 q d18_1 ?_)
 by_cases hc3_7 : p1 = (42 : Int32)
 ·refine own_cy X0 q d18_3 ((teq hc3_7).1) (own_k X0 q d18_12 (own_gt X0 q d18_13 ?_))
  refine own_rN X0 q hrt (by simp) d18_17 hlk (by decide) ?_
  show QM (p1 = 42 ∨ p1 = 63) h0 n0 _ s₁.heap _
  rw [e0]
  exact ⟨_, rfl, N0, rfl, Or.inl ⟨rfl, by simp [hc3_7]⟩⟩
 ·refine own_cn X0 q d18_3 ((feq hc3_7).1) (own_iln X0 q d18_6 rfl (own_k X0 q d18_7 ?_))
  by_cases hc9_8 : p1 = (63 : Int32)
  ·refine own_cn X0 q d18_9 ((teq hc9_8).2) (own_k X0 q d18_12 (own_gt X0 q d18_13 ?_))
   refine own_rN X0 q hrt (by simp) d18_17 hlk (by decide) ?_
   show QM (p1 = 42 ∨ p1 = 63) h0 n0 _ s₁.heap _
   rw [e0]
   exact ⟨_, rfl, N0, rfl, Or.inl ⟨rfl, by simp [hc3_7, hc9_8]⟩⟩
  ·refine own_cy X0 q d18_9 ((feq hc9_8).2) (own_k X0 q d18_16 ?_)
   refine own_rN X0 q hrt (by simp) d18_17 hlk (by decide) ?_
   show QM (p1 = 42 ∨ p1 = 63) h0 n0 _ s₁.heap _
   rw [e0]
   exact ⟨_, rfl, N0, rfl, Or.inr ⟨rfl, by simp [hc3_7, hc9_8]⟩⟩
theorem d14_0 : own_D b'14 0 (.iload_n 0) 1 1 := by decide +kernel
theorem d14_1 : own_D b'14 1 (.iload_n 1) 1 2 := by decide +kernel
theorem d14_2 : own_DJ b'14 2 .gt 9 5 := by decide +kernel
theorem d14_5 : own_D b'14 5 (.iload_n 0) 1 6 := by decide +kernel
theorem d14_6 : own_DG b'14 6 10 := by decide +kernel
theorem d14_9 : own_D b'14 9 (.iload_n 1) 1 10 := by decide +kernel
theorem d14_10 : own_D b'14 10 .ireturn 1 11 := by decide +kernel
theorem pn_14 : plainFor (⟨"java/lang/Math", "min", "(II)I"⟩ : MethodName) = true := Jvm.Free.JP.mathPlain rfl (by decide +kernel)
theorem rm14 (l : Launch) (Z : State) (a0 : Array Value) (hw : own_hw a0 Z) (p1 : Int32) (p2 : Int32) (z : Int32) (h0 : Heap) (n0 : Nat) (Z0 : n0 ≤ h0.size) (hz : own_min p1 p2 = z) :
  own_M l Z [] own_y2 b'14 2 (some .int) ⟨0, 0, 0, 0⟩ #[(.int p1), (.int p2)] h0 (QI z h0 n0) := by
 refine own_start (n0 := n0) hw "java/lang/Math" (L := #[.val (.int p1), .val (.int p2)]) pn_14 (fun {p e s m below meth c s₁} q hx W hml hZ hown hnm hlk hrt X0 e0 N0 => ?_)
 refine own_iln X0 q d14_0 rfl (own_iln X0 q d14_1 rfl ?_)
 by_cases hc2_10 : p2 < p1
 ·refine own_cy X0 q d14_2 ((tlt hc2_10).2.2.1) (own_iln X0 q d14_9 rfl ?_)
  refine own_rI X0 q hrt d14_10 hlk (by decide) ?_
  show QI z h0 n0 _ s₁.heap _
  rw [e0]
  exact ⟨by rw [← hz]; simp only [own_min]; rw [if_pos hc2_10], N0, rfl⟩
 ·refine own_cn X0 q d14_2 ((flt hc2_10).2.2.1) (own_iln X0 q d14_5 rfl (own_gt X0 q d14_6 ?_))
  refine own_rI X0 q hrt d14_10 hlk (by decide) ?_
  show QI z h0 n0 _ s₁.heap _
  rw [e0]
  exact ⟨by rw [← hz]; simp only [own_min]; rw [if_neg hc2_10], N0, rfl⟩
theorem d13_0 : own_D b'13 0 (.iload_n 0) 1 1 := by decide +kernel
theorem d13_1 : own_D b'13 1 (.iload_n 1) 1 2 := by decide +kernel
theorem d13_2 : own_DJ b'13 2 .lt 9 5 := by decide +kernel
theorem d13_5 : own_D b'13 5 (.iload_n 0) 1 6 := by decide +kernel
theorem d13_6 : own_DG b'13 6 10 := by decide +kernel
theorem d13_9 : own_D b'13 9 (.iload_n 1) 1 10 := by decide +kernel
theorem d13_10 : own_D b'13 10 .ireturn 1 11 := by decide +kernel
theorem pn_13 : plainFor (⟨"java/lang/Math", "max", "(II)I"⟩ : MethodName) = true := Jvm.Free.JP.mathPlain rfl (by decide +kernel)
theorem rm13 (l : Launch) (Z : State) (a0 : Array Value) (hw : own_hw a0 Z) (p1 : Int32) (p2 : Int32) (z : Int32) (h0 : Heap) (n0 : Nat) (Z0 : n0 ≤ h0.size) (hz : own_max p1 p2 = z) :
  own_M l Z [] own_y3 b'13 2 (some .int) ⟨0, 0, 0, 0⟩ #[(.int p1), (.int p2)] h0 (QI z h0 n0) := by
 refine own_start (n0 := n0) hw "java/lang/Math" (L := #[.val (.int p1), .val (.int p2)]) pn_13 (fun {p e s m below meth c s₁} q hx W hml hZ hown hnm hlk hrt X0 e0 N0 => ?_)
 refine own_iln X0 q d13_0 rfl (own_iln X0 q d13_1 rfl ?_)
 by_cases hc2_12 : p1 < p2
 ·refine own_cy X0 q d13_2 ((tlt hc2_12).1) (own_iln X0 q d13_9 rfl ?_)
  refine own_rI X0 q hrt d13_10 hlk (by decide) ?_
  show QI z h0 n0 _ s₁.heap _
  rw [e0]
  exact ⟨by rw [← hz]; simp only [own_max]; rw [if_pos hc2_12], N0, rfl⟩
 ·refine own_cn X0 q d13_2 ((flt hc2_12).1) (own_iln X0 q d13_5 rfl (own_gt X0 q d13_6 ?_))
  refine own_rI X0 q hrt d13_10 hlk (by decide) ?_
  show QI z h0 n0 _ s₁.heap _
  rw [e0]
  exact ⟨by rw [← hz]; simp only [own_max]; rw [if_neg hc2_12], N0, rfl⟩
theorem d16_0 : own_DK b'16 0 0 1 := by decide +kernel
theorem d16_1 : own_D b'16 1 (.istore 5) 2 3 := by decide +kernel
theorem d16_3 : own_D b'16 3 (.iload 5) 2 5 := by decide +kernel
theorem d16_5 : own_D b'16 5 (.iload 4) 2 7 := by decide +kernel
theorem d16_7 : own_DJ b'16 7 .ge 44 10 := by decide +kernel
theorem d16_10 : own_D b'16 10 (.aload_n 0) 1 11 := by decide +kernel
theorem d16_11 : own_D b'16 11 (.iload_n 1) 1 12 := by decide +kernel
theorem d16_12 : own_D b'16 12 .caload 1 13 := by decide +kernel
theorem d16_13 : own_D b'16 13 (.istore 6) 2 15 := by decide +kernel
theorem d16_15 : own_D b'16 15 (.iload 6) 2 17 := by decide +kernel
theorem d16_17 : own_DK b'16 17 255 20 := by decide +kernel
theorem d16_20 : own_DJ b'16 20 .le 26 23 := by decide +kernel
theorem d16_23 : own_D b'16 23 (.iload 5) 2 25 := by decide +kernel
theorem d16_25 : own_D b'16 25 .ireturn 1 26 := by decide +kernel
theorem d16_26 : own_D b'16 26 (.aload_n 2) 1 27 := by decide +kernel
theorem d16_27 : own_D b'16 27 (.iload_n 3) 1 28 := by decide +kernel
theorem d16_28 : own_D b'16 28 (.iload 6) 2 30 := by decide +kernel
theorem d16_30 : own_D b'16 30 .i2b 1 31 := by decide +kernel
theorem d16_31 : own_D b'16 31 .bastore 1 32 := by decide +kernel
theorem d16_32 : own_DI b'16 32 1 1 35 := by decide +kernel
theorem d16_35 : own_DI b'16 35 3 1 38 := by decide +kernel
theorem d16_38 : own_DI b'16 38 5 1 41 := by decide +kernel
theorem d16_41 : own_DG b'16 41 3 := by decide +kernel
theorem d16_44 : own_D b'16 44 (.iload 4) 2 46 := by decide +kernel
theorem d16_46 : own_D b'16 46 .ireturn 1 47 := by decide +kernel
theorem pn_16 : plainFor (⟨"java/lang/StringUTF16", "compress", "([CI[BII)I"⟩ : MethodName) = true := plainFor_of_name (by first | (simp [plainName, overriddenIn]; done) | decide +kernel)
theorem rm16_1 (l : Launch) (Z : State) (a0 : Array Value) (hw : own_hw a0 Z) (a1 : Addr) (b : Addr) (k1 k2 : ClassId) (x0 : Int32) (h0 : Heap) (n0 : Nat) (Z0 : n0 ≤ h0.size) (VA : Arv Z h0 a1 k1 .char (1 : Int32) [(.int x0)] v'0) (VB : Arv Z h0 b k2 .byte (1 : Int32) [v'0] v'0) (gb : n0 ≤ b) (nab : a1 ≠ b) (hc0 : own_c8 x0) :
  own_M l Z [] own_y4 b'16 7 (some .int) ⟨0, 0, 0, 0⟩ #[(.ref a1), v'0, (.ref b), v'0, v'1] h0 (QC1a Z b k2 x0 h0 n0) := by
 refine own_start (n0 := n0) hw "java/lang/StringUTF16" (L := #[.val (.ref a1), .val v'0, .val (.ref b), .val v'0, .val v'1, .unset, .unset]) pn_16 (fun {p e s m below meth c s₁} q hx W hml hZ hown hnm hlk hrt X0 e0 N0 => ?_)
 have kp0 := Keep.refl h0 [b]
 refine own_k X0 q d16_0 (own_is X0 q d16_1 (l' := #[.val (.ref a1), .val v'0, .val (.ref b), .val v'0, .val v'1, .val v'0, .unset]) rfl (own_il X0 q d16_3 rfl (own_il X0 q d16_5 rfl (own_cn X0 q d16_7 ((tlt ((by decide) : (0 : Int32) < (1 : Int32))).2.1) (own_aln X0 q d16_10 rfl rfl (own_iln X0 q d16_11 rfl (own_cld (v := (.int x0)) X0 q hZ e0 VA d16_12 (by decide) rfl (own_is X0 q d16_13 (l' := #[.val (.ref a1), .val v'0, .val (.ref b), .val v'0, .val v'1, .val v'0, .val (.int x0)]) rfl (own_il X0 q d16_15 rfl (own_k X0 q d16_17 (own_cy X0 q d16_20 ((flt ((own_le255 hc0) : ¬ ((255 : Int32) < x0))).2.2.2) ?_)))))))))))
 refine own_aln X0 q d16_26 rfl rfl (own_iln X0 q d16_27 rfl (own_il X0 q d16_28 rfl (own_stp 31 (fun _ k => XS.i2b X0.here hx rfl (q.d d16_30) rfl k) ?_)))
 refine own_bst X0 q hZ e0 VB d16_31 (by decide) (Nat.le_of_ble_eq_true rfl) N0 gb fun T15 h15 X15 e15 W15 V15 N15 => ?_
 have zs16 := Nat.le_trans Z0 (Keep.of_wr W15).1
 have kp16 := kp0.wr W15 (own_i0)
 refine own_iik X15 q d16_32 rfl (show ((0 : Int32) + (1 : Int32)) = (1 : Int32) by decide) (l' := #[.val (.ref a1), .val v'1, .val (.ref b), .val v'0, .val v'1, .val v'0, .val (.int x0)]) rfl (own_iik X15 q d16_35 rfl (show ((0 : Int32) + (1 : Int32)) = (1 : Int32) by decide) (l' := #[.val (.ref a1), .val v'1, .val (.ref b), .val v'1, .val v'1, .val v'0, .val (.int x0)]) rfl (own_iik X15 q d16_38 rfl (show ((0 : Int32) + (1 : Int32)) = (1 : Int32) by decide) (l' := #[.val (.ref a1), .val v'1, .val (.ref b), .val v'1, .val v'1, .val v'1, .val (.int x0)]) rfl (own_gt X15 q d16_41 (own_il X15 q d16_3 rfl (own_il X15 q d16_5 rfl (own_cy X15 q d16_7 ((flt (Int32.lt_irrefl : ¬ ((1 : Int32) < (1 : Int32)))).2.1) (own_il X15 q d16_44 rfl ?_)))))))
 refine own_rI X15 q hrt d16_46 hlk (by decide) ?_
 show QC1a Z b k2 x0 h0 n0 _ T15.heap _
 rw [e15]
 exact ⟨rfl, N15, kp16, V15⟩
theorem d15_0 : own_D b'15 0 (.iload_n 2) 1 1 := by decide +kernel
theorem d15_1 : own_D b'15 1 (.newarray .byte) 2 3 := by decide +kernel
theorem d15_3 : own_D b'15 3 (.astore_n 3) 1 4 := by decide +kernel
theorem d15_4 : own_D b'15 4 (.aload_n 0) 1 5 := by decide +kernel
theorem d15_5 : own_D b'15 5 (.iload_n 1) 1 6 := by decide +kernel
theorem d15_6 : own_D b'15 6 (.aload_n 3) 1 7 := by decide +kernel
theorem d15_7 : own_DK b'15 7 0 8 := by decide +kernel
theorem d15_8 : own_D b'15 8 (.iload_n 2) 1 9 := by decide +kernel
theorem d15_9 : own_D b'15 9 (.invokestatic 115) 3 12 := by decide +kernel
theorem d15_12 : own_D b'15 12 (.istore 4) 2 14 := by decide +kernel
theorem d15_14 : own_D b'15 14 (.iload 4) 2 16 := by decide +kernel
theorem d15_16 : own_D b'15 16 (.iload_n 2) 1 17 := by decide +kernel
theorem d15_17 : own_DJ b'15 17 .eq 57 20 := by decide +kernel
theorem d15_20 : own_D b'15 20 (.aload_n 0) 1 21 := by decide +kernel
theorem d15_21 : own_D b'15 21 (.iload_n 1) 1 22 := by decide +kernel
theorem d15_22 : own_D b'15 22 (.iload_n 2) 1 23 := by decide +kernel
theorem d15_23 : own_D b'15 23 (.invokestatic 119) 3 26 := by decide +kernel
theorem d15_26 : own_D b'15 26 (.astore 5) 2 28 := by decide +kernel
theorem d15_28 : own_D b'15 28 (.aload 5) 2 30 := by decide +kernel
theorem d15_30 : own_D b'15 30 (.iload 4) 2 32 := by decide +kernel
theorem d15_32 : own_D b'15 32 (.invokestatic 71) 3 35 := by decide +kernel
theorem d15_35 : own_DK b'15 35 255 38 := by decide +kernel
theorem d15_38 : own_DJ b'15 38 .gt 54 41 := by decide +kernel
theorem d15_41 : own_D b'15 41 (.aload 5) 2 43 := by decide +kernel
theorem d15_43 : own_DK b'15 43 0 44 := by decide +kernel
theorem d15_44 : own_D b'15 44 (.aload_n 3) 1 45 := by decide +kernel
theorem d15_45 : own_DK b'15 45 0 46 := by decide +kernel
theorem d15_46 : own_D b'15 46 (.iload_n 2) 1 47 := by decide +kernel
theorem d15_47 : own_D b'15 47 (.invokestatic 123) 3 50 := by decide +kernel
theorem d15_50 : own_D b'15 50 (.iload_n 2) 1 51 := by decide +kernel
theorem d15_51 : own_DJ b'15 51 .eq 57 54 := by decide +kernel
theorem d15_54 : own_D b'15 54 (.aload 5) 2 56 := by decide +kernel
theorem d15_56 : own_D b'15 56 .areturn 1 57 := by decide +kernel
theorem d15_57 : own_D b'15 57 (.aload_n 3) 1 58 := by decide +kernel
theorem d15_58 : own_D b'15 58 .areturn 1 59 := by decide +kernel
theorem pn_15 : plainFor (⟨"java/lang/StringUTF16", "compress", "([CII)[B"⟩ : MethodName) = true := plainFor_of_name (by first | (simp [plainName, overriddenIn]; done) | decide +kernel)
theorem rm15_1 (l : Launch) (Z : State) (a0 : Array Value) (hw : own_hw a0 Z) (a1 : Addr) (k1 : ClassId) (x0 : Int32) (h0 : Heap) (n0 : Nat) (Z0 : n0 ≤ h0.size) (VA : Arv Z h0 a1 k1 .char (1 : Int32) [(.int x0)] v'0) (hc0 : own_c8 x0) :
  own_M l Z [] own_y5 b'15 6 (some (.array .byte)) ⟨1, 1, 1, 18⟩ #[(.ref a1), v'0, v'1] h0 (QC1b Z x0 h0 n0) := by
 refine own_start (n0 := n0) hw "java/lang/StringUTF16" (L := #[.val (.ref a1), .val v'0, .val v'1, .unset, .unset, .unset]) pn_15 (fun {p e s m below meth c s₁} q hx W hml hZ hown hnm hlk hrt X0 e0 N0 => ?_)
 have kp0 := Keep.refl h0 []
 refine own_iln X0 q d15_0 rfl ?_
 refine own_let ?_; intro g22_
 obtain ⟨T23, h23, k23, X23, e23, E23, A23, st23⟩ := newP X0 hx hZ (W 20 rfl) e0 (g := g22_) rfl (q.d d15_1) rfl (by decide) (cap := 1) (by decide) (by decide) (by decide) (by decide)
 obtain ⟨b23, g23⟩ : ∃ z, z = h0.size := ⟨_, rfl⟩
 rw [← g23] at A23 st23
 have V23 : Arv Z h23 b23 k23 .byte (1 : Int32) [v'0] v'0 := (Arv.new A23 (by decide)).pad (pad_rep [] v'0 1)
 have zs24 := Nat.le_trans Z0 E23.1
 have kp24 := kp0.ext E23
 have g_b23 : n0 ≤ b23 := Nat.le_trans Z0 (Nat.le_of_eq g23.symm)
 have sz_b23 : h0.size ≤ b23 := Nat.le_trans kp0.1 (Nat.le_of_eq g23.symm)
 refine own_stp 3 st23 (own_asn X23 q d15_3 rfl (l' := #[.val (.ref a1), .val v'0, .val v'1, .val (.ref b23), .unset, .unset]) rfl (own_aln X23 q d15_4 rfl rfl (own_iln X23 q d15_5 rfl (own_aln X23 q d15_6 rfl rfl (own_k X23 q d15_7 (own_iln X23 q d15_8 rfl ?_))))))
 refine own_cSh X23 q hZ e23 hown hml (W 75 rfl) (W 76 rfl) (W 73 rfl) (W 77 rfl) (rm16_1 l Z a0 hw a1 b23 k1 k23 x0 h23 n0 zs24 (VA.ext E23) V23 g_b23 (own_ne (VA).lt (Nat.le_of_eq g23.symm)) hc0) d15_9 [(.ref a1), v'0, (.ref b23), v'0, v'1] [] own_pd0 rfl rfl 0 (Nat.le_refl _) (by decide) (fun v25 T25 L25 h25 e25' X25 hQ25 => ?_)
 obtain ⟨rfl, N25q, K25, V25⟩ := hQ25
 have N25 := Fr.app N0 N25q
 have zs26 := Nat.le_trans zs24 K25.1
 have kp26 := kp24.trans K25 (allS (Or.inr sz_b23) all0)
 refine own_nv (own_is X25 q d15_12 (l' := #[.val (.ref a1), .val v'0, .val v'1, .val (.ref b23), .val v'1, .unset]) rfl (own_il X25 q d15_14 rfl (own_iln X25 q d15_16 rfl (own_cy X25 q d15_17 ((teq (rfl : (1 : Int32) = (1 : Int32))).1) (own_aln X25 q d15_57 rfl rfl ?_)))))
 refine own_rA X25 q hrt d15_58 hlk (by decide) ?_
 show QC1b Z x0 h0 n0 _ T25.heap _
 rw [e25']
 exact ⟨_, _, rfl, N25, own_extK kp26, sz_b23, V25⟩
theorem d17_0 : own_D b'17 0 (.iload_n 1) 1 1 := by decide +kernel
theorem d17_1 : own_D b'17 1 (.aload_n 0) 1 2 := by decide +kernel
theorem d17_2 : own_D b'17 2 .arraylength 1 3 := by decide +kernel
theorem d17_3 : own_D b'17 3 .isub 1 4 := by decide +kernel
theorem d17_4 : own_DK b'17 4 31 6 := by decide +kernel
theorem d17_6 : own_D b'17 6 .iushr 1 7 := by decide +kernel
theorem d17_7 : own_D b'17 7 .i2b 1 8 := by decide +kernel
theorem d17_8 : own_D b'17 8 .ireturn 1 9 := by decide +kernel
theorem pn_17 : plainFor (⟨"java/lang/StringUTF16", "coderFromArrayLen", "([BI)B"⟩ : MethodName) = true := plainFor_of_name (by first | (simp [plainName, overriddenIn]; done) | decide +kernel)
theorem rm17_1 (l : Launch) (Z : State) (a0 : Array Value) (hw : own_hw a0 Z) (a1 : Addr) (k1 : ClassId) (vs : List Value) (h0 : Heap) (n0 : Nat) (Z0 : n0 ≤ h0.size) (VA : Arv Z h0 a1 k1 .byte (1 : Int32) vs v'0) :
  own_M l Z [] own_y6 b'17 2 (some .byte) ⟨0, 0, 0, 0⟩ #[(.ref a1), v'1] h0 (QI (0 : Int32) h0 n0) := by
 refine own_start (n0 := n0) hw "java/lang/StringUTF16" (L := #[.val (.ref a1), .val v'1]) pn_17 (fun {p e s m below meth c s₁} q hx W hml hZ hown hnm hlk hrt X0 e0 N0 => ?_)
 refine own_iln X0 q d17_0 rfl (own_aln X0 q d17_1 rfl rfl (own_alen (n := (1 : Int32)) X0 q hZ e0 VA d17_2 (own_isubk 0 X0 q d17_3 (by decide) (own_k X0 q d17_4 (own_stp 7 (fun _ k => XS.iushr X0.here hx rfl (q.d d17_6) rfl k) ?_)))))
 rw [show (((0 : Int32).toUInt32 >>> ((31 : Int32) &&& 31).toUInt32).toInt32) = (0 : Int32) from by decide]
 refine own_stp 8 (fun _ k => XS.i2b X0.here hx rfl (q.d d17_7) rfl k) ?_
 rw [show ((0 : Int32).toInt8.toInt32) = (0 : Int32) from by decide]
 refine own_rN X0 q hrt (by simp) d17_8 hlk (by decide) ?_
 show QI (0 : Int32) h0 n0 _ s₁.heap _
 rw [e0]
 exact ⟨rfl, N0, rfl⟩
theorem d3_0 : own_D b'3 0 (.aload_n 0) 1 1 := by decide +kernel
theorem d3_1 : own_D b'3 1 (.invokespecial 1) 3 4 := by decide +kernel
theorem d3_4 : own_D b'3 4 (.iload_n 3) 1 5 := by decide +kernel
theorem d3_5 : own_DZ b'3 5 .ne 27 8 := by decide +kernel
theorem d3_8 : own_D b'3 8 (.aload_n 0) 1 9 := by decide +kernel
theorem d3_9 : own_D b'3 9 (.ldc 7) 2 11 := by decide +kernel
theorem d3_11 : own_D b'3 11 (.getfield 9) 3 14 := by decide +kernel
theorem d3_14 : own_D b'3 14 (.putfield 9) 3 17 := by decide +kernel
theorem d3_17 : own_D b'3 17 (.aload_n 0) 1 18 := by decide +kernel
theorem d3_18 : own_D b'3 18 (.ldc 7) 2 20 := by decide +kernel
theorem d3_20 : own_D b'3 20 (.getfield 15) 3 23 := by decide +kernel
theorem d3_23 : own_D b'3 23 (.putfield 15) 3 26 := by decide +kernel
theorem d3_26 : own_D b'3 26 .return_ 1 27 := by decide +kernel
theorem d3_27 : own_D b'3 27 (.getstatic 38) 3 30 := by decide +kernel
theorem d3_30 : own_DZ b'3 30 .eq 58 33 := by decide +kernel
theorem d3_33 : own_D b'3 33 (.aload_n 1) 1 34 := by decide +kernel
theorem d3_34 : own_D b'3 34 (.iload_n 2) 1 35 := by decide +kernel
theorem d3_35 : own_D b'3 35 (.iload_n 3) 1 36 := by decide +kernel
theorem d3_36 : own_D b'3 36 (.invokestatic 177) 3 39 := by decide +kernel
theorem d3_39 : own_D b'3 39 (.astore 5) 2 41 := by decide +kernel
theorem d3_41 : own_D b'3 41 (.aload_n 0) 1 42 := by decide +kernel
theorem d3_42 : own_D b'3 42 (.aload 5) 2 44 := by decide +kernel
theorem d3_44 : own_D b'3 44 (.iload_n 3) 1 45 := by decide +kernel
theorem d3_45 : own_D b'3 45 (.invokestatic 47) 3 48 := by decide +kernel
theorem d3_48 : own_D b'3 48 (.putfield 15) 3 51 := by decide +kernel
theorem d3_51 : own_D b'3 51 (.aload_n 0) 1 52 := by decide +kernel
theorem d3_52 : own_D b'3 52 (.aload 5) 2 54 := by decide +kernel
theorem d3_54 : own_D b'3 54 (.putfield 9) 3 57 := by decide +kernel
theorem d3_57 : own_D b'3 57 .return_ 1 58 := by decide +kernel
theorem d3_58 : own_D b'3 58 (.aload_n 0) 1 59 := by decide +kernel
theorem d3_59 : own_DK b'3 59 1 60 := by decide +kernel
theorem d3_60 : own_D b'3 60 (.putfield 15) 3 63 := by decide +kernel
theorem d3_63 : own_D b'3 63 (.aload_n 0) 1 64 := by decide +kernel
theorem d3_64 : own_D b'3 64 (.aload_n 1) 1 65 := by decide +kernel
theorem d3_65 : own_D b'3 65 (.iload_n 2) 1 66 := by decide +kernel
theorem d3_66 : own_D b'3 66 (.iload_n 3) 1 67 := by decide +kernel
theorem d3_67 : own_D b'3 67 (.invokestatic 180) 3 70 := by decide +kernel
theorem d3_70 : own_D b'3 70 (.putfield 9) 3 73 := by decide +kernel
theorem d3_73 : own_D b'3 73 .return_ 1 74 := by decide +kernel
theorem pn_3 : plainFor (⟨"java/lang/String", "<init>", "([CIILjava/lang/Void;)V"⟩ : MethodName) = true := plainFor_of_name (by first | (simp [plainName, overriddenIn]; done) | decide +kernel)
theorem rm3_1 (l : Launch) (Z : State) (a0 : Array Value) (hw : own_hw a0 Z) (a1 : Addr) (a2 : Addr) (k1 : ClassId) (x0 : Int32) (cs0 : Int32) (h0 : Heap) (n0 : Nat) (Z0 : n0 ≤ h0.size) (E1 : Exa Z h0 a1 "java/lang/String") (FV : F'1 Z h0 a1 .null) (FC : F'0 Z h0 a1 v'0) (VA : Arv Z h0 a2 k1 .char (1 : Int32) [(.int x0)] v'0) (g1 : n0 ≤ a1) (n12 : a1 ≠ a2) (O0 : Old Z n0 h0) (SC_ : own_SC Z cs0) (hc0 : own_c8 x0) :
  own_M l Z [] own_y7 b'3 6 none ⟨2, 1, 1, 35⟩ #[(.ref a1), (.ref a2), v'0, v'1, .null] h0 (QI1 Z a1 x0 h0 n0) := by
 obtain ⟨SCS, hcs⟩ := SC_
 refine own_start (n0 := n0) hw "java/lang/String" (L := #[.val (.ref a1), .val (.ref a2), .val v'0, .val v'1, .val .null, .unset]) pn_3 (fun {p e s m below meth c s₁} q hx W hml hZ hown hnm hlk hrt X0 e0 N0 => ?_)
 have kp0 := Keep.refl h0 [a1]
 refine own_aln X0 q d3_0 rfl rfl ?_
 refine own_let ?_; intro g39_
 obtain ⟨T40, X40, e40, st40⟩ := initO X0 hx hZ hown (W 16 rfl) (W 17 rfl) (W 18 rfl) e0 (g := g39_) rfl (by rw [hml]; rfl) rfl (q.d d3_1) (by decide) (W := 0) (by show 2 * 0 + _ ≤ _; exact Nat.le_of_eq rfl) (by decide)
 refine own_stp 4 st40 (own_iln X40 q d3_4 rfl (own_zy X40 q d3_5 (((if0 _ _).trans (feq ((by decide) : ¬ ((1 : Int32) = (0 : Int32)))).2)) ?_))
 refine own_gS X40 q hZ e40 hown (W 46 rfl) (SCS.ext O0.2) d3_27 fun T41 X41 e41 => ?_
 refine own_zn X41 q d3_30 (((if0 _ _).trans (feq hcs).1)) (own_aln X41 q d3_33 rfl rfl (own_iln X41 q d3_34 rfl (own_iln X41 q d3_35 rfl ?_)))
 refine own_cSh X41 q hZ e41 hown hml (W 71 rfl) (W 72 rfl) (W 73 rfl) (W 74 rfl) (rm15_1 l Z a0 hw a2 k1 x0 h0 n0 Z0 VA hc0) d3_36 [(.ref a2), v'0, v'1] [] own_pd1 rfl rfl 0 (Nat.le_refl _) (by decide) (fun v42 T42 L42 h42 e42' X42 hQ42 => ?_)
 obtain ⟨b42, k42, rfl, N42q, E42, lo42, V42⟩ := hQ42
 have N42 := Fr.app N0 N42q
 have zs43 := Nat.le_trans Z0 E42.1
 have od43 := O0.ext E42
 have kp43 := kp0.ext E42
 have g_b42 : n0 ≤ b42 := Nat.le_trans Z0 lo42
 have sz_b42 : h0.size ≤ b42 := Nat.le_trans kp0.1 lo42
 refine own_nv (own_as X42 q d3_39 rfl (l' := #[.val (.ref a1), .val (.ref a2), .val v'0, .val v'1, .val .null, .val (.ref b42)]) rfl (own_aln X42 q d3_41 rfl rfl (own_al X42 q d3_42 rfl rfl (own_iln X42 q d3_44 rfl ?_))))
 refine own_cS X42 q hZ e42' hown hml (W 78 rfl) (W 79 rfl) (W 73 rfl) (W 80 rfl) (rm17_1 l Z a0 hw b42 k42 _ h42 n0 zs43 V42) d3_45 [(.ref b42), v'1] [(.ref a1)] own_pd2 rfl rfl 1 (Nat.le_refl _) (by decide) (fun v44 T44 L44 X44 hQ44 => ?_)
 obtain ⟨rfl, N44q, e44⟩ := hQ44
 have N44 := Fr.app N42 N44q
 refine own_nv ?_
 refine own_let ?_; intro g45_
 obtain ⟨T46, h46, X46, e46, W46, st46⟩ := putFN X44 hx hZ hown (W 26 rfl) Via.refl e44 (FC.ext E42) (E1.ext E42) (Or.inr ⟨(W 22 rfl), rfl, hnm⟩) (W 6 rfl) (ty := .byte) (v' := v'0) (by decide) rfl rfl (g := g45_) rfl rfl (q.d d3_48)
 have zs47 := Nat.le_trans zs43 (Keep.of_wr W46).1
 have od47 := od43.wr W46 g1
 have kp47 := kp43.wr W46 (own_i0)
 have Fw46 := ((FC.ext E42)).same W46
 have N46 := Fr.snoc X46 N44 g1
 refine own_stp 51 st46 (own_aln X46 q d3_51 rfl rfl (own_al X46 q d3_52 rfl rfl ?_))
 refine own_let ?_; intro g48_
 obtain ⟨T49, h49, X49, e49, W49, st49⟩ := putF X46 hx hZ hown (host := "") (Or.inl (W 25 rfl)) Via.refl e46 ((FV.ext E42).other W46 (Or.inr (slot_ne (Or.inr (W 21 rfl)) (Or.inr (W 22 rfl)) (by decide) (t := (.array .byte)) (t' := .byte) (by decide) (by decide)))) ((E1.ext E42).wr W46) (Or.inr ⟨(W 21 rfl), rfl, hnm⟩) (W 6 rfl) (ty := (.array .byte)) (by decide) rfl rfl (g := g48_) rfl rfl (q.d d3_54)
 have zs50 := Nat.le_trans zs47 (Keep.of_wr W49).1
 have od50 := od47.wr W49 g1
 have kp50 := kp47.wr W49 (own_i0)
 have Fw49 := (((FV.ext E42).other W46 (Or.inr (slot_ne (Or.inr (W 21 rfl)) (Or.inr (W 22 rfl)) (by decide) (t := (.array .byte)) (t' := .byte) (by decide) (by decide))))).same W49
 have N49 := Fr.snoc X49 N46 g1
 refine own_stp 57 st49 ?_
 refine own_rV X49 q hrt d3_57 hlk (by decide) ?_
 show QI1 Z a1 x0 h0 n0 _ T49.heap _
 rw [e49]
 exact ⟨_, _, rfl, N49, kp50, Fw49, (Fw46.other W49 (Or.inr (slot_ne (Or.inr (W 22 rfl)) (Or.inr (W 21 rfl)) (by decide) (t := .byte) (t' := (.array .byte)) (by decide) (by decide)))), ((V42.other W46 (Ne.symm (own_ne (E1).lt lo42))).other W49 (Ne.symm (own_ne (E1).lt lo42)))⟩
theorem d2_0 : own_D b'2 0 (.aload_n 0) 1 1 := by decide +kernel
theorem d2_1 : own_D b'2 1 (.aload_n 1) 1 2 := by decide +kernel
theorem d2_2 : own_DK b'2 2 0 3 := by decide +kernel
theorem d2_3 : own_D b'2 3 (.aload_n 1) 1 4 := by decide +kernel
theorem d2_4 : own_D b'2 4 .arraylength 1 5 := by decide +kernel
theorem d2_5 : own_D b'2 5 .aconst_null 1 6 := by decide +kernel
theorem d2_6 : own_D b'2 6 (.invokespecial 27) 3 9 := by decide +kernel
theorem d2_9 : own_D b'2 9 .return_ 1 10 := by decide +kernel
theorem pn_2 : plainFor (⟨"java/lang/String", "<init>", "([C)V"⟩ : MethodName) = true := plainFor_of_name (by first | (simp [plainName, overriddenIn]; done) | decide +kernel)
theorem rm2_1 (l : Launch) (Z : State) (a0 : Array Value) (hw : own_hw a0 Z) (a1 : Addr) (a2 : Addr) (k1 : ClassId) (x0 : Int32) (cs0 : Int32) (h0 : Heap) (n0 : Nat) (Z0 : n0 ≤ h0.size) (E1 : Exa Z h0 a1 "java/lang/String") (FV : F'1 Z h0 a1 .null) (FC : F'0 Z h0 a1 v'0) (VA : Arv Z h0 a2 k1 .char (1 : Int32) [(.int x0)] v'0) (g1 : n0 ≤ a1) (n12 : a1 ≠ a2) (O0 : Old Z n0 h0) (SC_ : own_SC Z cs0) (hc0 : own_c8 x0) :
  own_M l Z [] own_y8 b'2 2 none ⟨3, 1, 1, 52⟩ #[(.ref a1), (.ref a2)] h0 (QI1 Z a1 x0 h0 n0) := by
 obtain ⟨SCS, hcs⟩ := SC_
 refine own_start (n0 := n0) hw "java/lang/String" (L := #[.val (.ref a1), .val (.ref a2)]) pn_2 (fun {p e s m below meth c s₁} q hx W hml hZ hown hnm hlk hrt X0 e0 N0 => ?_)
 have kp0 := Keep.refl h0 [a1]
 refine own_aln X0 q d2_0 rfl rfl (own_aln X0 q d2_1 rfl rfl (own_k X0 q d2_2 (own_aln X0 q d2_3 rfl rfl (own_alen (n := (1 : Int32)) X0 q hZ e0 VA d2_4 (own_nl X0 q d2_5 ?_)))))
 refine own_cIh (a := a1) X0 q hZ e0 hown hml (W 12 rfl) (W 13 rfl) (W 7 rfl) (W 15 rfl) (rm3_1 l Z a0 hw a1 a2 k1 x0 cs0 h0 n0 Z0 E1 FV FC VA g1 n12 O0 ⟨SCS, hcs⟩ hc0) d2_6 [(.ref a2), v'0, v'1, .null] [] own_pd3 rfl rfl 0 (Nat.le_refl _) rfl (by decide) (fun v53 T53 L53 h53 e53' X53 hQ53 => ?_)
 obtain ⟨t53, k53, rfl, N53q, K53, Fv53, Fc53, V53⟩ := hQ53
 have N53 := Fr.app N0 N53q
 have zs54 := Nat.le_trans Z0 K53.1
 have od54 := O0.keep K53 (allS g1 all0)
 have kp54 := kp0.trans K53 (allS (own_i0) all0)
 refine own_nn ?_
 refine own_rV X53 q hrt d2_9 hlk (by decide) ?_
 show QI1 Z a1 x0 h0 n0 _ T53.heap _
 rw [e53']
 exact ⟨_, _, rfl, N53, kp54, Fv53, Fc53, V53⟩
theorem rm16_2 (l : Launch) (Z : State) (a0 : Array Value) (hw : own_hw a0 Z) (a1 : Addr) (b : Addr) (k1 k2 : ClassId) (x0 x1 : Int32) (h0 : Heap) (n0 : Nat) (Z0 : n0 ≤ h0.size) (VA : Arv Z h0 a1 k1 .char (2 : Int32) [(.int x0), (.int x1)] v'0) (VB : Arv Z h0 b k2 .byte (2 : Int32) [v'0, v'0] v'0) (gb : n0 ≤ b) (nab : a1 ≠ b) (hc0 : own_c8 x0) (hc1 : own_c8 x1) :
  own_M l Z [] own_y4 b'16 7 (some .int) ⟨0, 0, 0, 0⟩ #[(.ref a1), v'0, (.ref b), v'0, v'2] h0 (QC2a Z b k2 x0 x1 h0 n0) := by
 refine own_start (n0 := n0) hw "java/lang/StringUTF16" (L := #[.val (.ref a1), .val v'0, .val (.ref b), .val v'0, .val v'2, .unset, .unset]) pn_16 (fun {p e s m below meth c s₁} q hx W hml hZ hown hnm hlk hrt X0 e0 N0 => ?_)
 have kp0 := Keep.refl h0 [b]
 refine own_k X0 q d16_0 (own_is X0 q d16_1 (l' := #[.val (.ref a1), .val v'0, .val (.ref b), .val v'0, .val v'2, .val v'0, .unset]) rfl (own_il X0 q d16_3 rfl (own_il X0 q d16_5 rfl (own_cn X0 q d16_7 ((tlt ((by decide) : (0 : Int32) < (2 : Int32))).2.1) (own_aln X0 q d16_10 rfl rfl (own_iln X0 q d16_11 rfl (own_cld (v := (.int x0)) X0 q hZ e0 VA d16_12 (by decide) rfl (own_is X0 q d16_13 (l' := #[.val (.ref a1), .val v'0, .val (.ref b), .val v'0, .val v'2, .val v'0, .val (.int x0)]) rfl (own_il X0 q d16_15 rfl (own_k X0 q d16_17 (own_cy X0 q d16_20 ((flt ((own_le255 hc0) : ¬ ((255 : Int32) < x0))).2.2.2) ?_)))))))))))
 refine own_aln X0 q d16_26 rfl rfl (own_iln X0 q d16_27 rfl (own_il X0 q d16_28 rfl (own_stp 31 (fun _ k => XS.i2b X0.here hx rfl (q.d d16_30) rfl k) ?_)))
 refine own_bst X0 q hZ e0 VB d16_31 (by decide) (Nat.le_of_ble_eq_true rfl) N0 gb fun T59 h59 X59 e59 W59 V59 N59 => ?_
 have zs60 := Nat.le_trans Z0 (Keep.of_wr W59).1
 have kp60 := kp0.wr W59 (own_i0)
 refine own_iik X59 q d16_32 rfl (show ((0 : Int32) + (1 : Int32)) = (1 : Int32) by decide) (l' := #[.val (.ref a1), .val v'1, .val (.ref b), .val v'0, .val v'2, .val v'0, .val (.int x0)]) rfl (own_iik X59 q d16_35 rfl (show ((0 : Int32) + (1 : Int32)) = (1 : Int32) by decide) (l' := #[.val (.ref a1), .val v'1, .val (.ref b), .val v'1, .val v'2, .val v'0, .val (.int x0)]) rfl (own_iik X59 q d16_38 rfl (show ((0 : Int32) + (1 : Int32)) = (1 : Int32) by decide) (l' := #[.val (.ref a1), .val v'1, .val (.ref b), .val v'1, .val v'2, .val v'1, .val (.int x0)]) rfl (own_gt X59 q d16_41 (own_il X59 q d16_3 rfl (own_il X59 q d16_5 rfl (own_cn X59 q d16_7 ((tlt ((by decide) : (1 : Int32) < (2 : Int32))).2.1) (own_aln X59 q d16_10 rfl rfl (own_iln X59 q d16_11 rfl (own_cld (v := (.int x1)) X59 q hZ e59 (VA.other W59 nab) d16_12 (by decide) rfl (own_is X59 q d16_13 (l' := #[.val (.ref a1), .val v'1, .val (.ref b), .val v'1, .val v'2, .val v'1, .val (.int x1)]) rfl (own_il X59 q d16_15 rfl ?_)))))))))))
 refine own_k X59 q d16_17 (own_cy X59 q d16_20 ((flt ((own_le255 hc1) : ¬ ((255 : Int32) < x1))).2.2.2) (own_aln X59 q d16_26 rfl rfl (own_iln X59 q d16_27 rfl (own_il X59 q d16_28 rfl (own_stp 31 (fun _ k => XS.i2b X59.here hx rfl (q.d d16_30) rfl k) ?_)))))
 refine own_bst X59 q hZ e59 V59 d16_31 (by decide) (Nat.le_of_ble_eq_true rfl) N59 gb fun T61 h61 X61 e61 W61 V61 N61 => ?_
 have zs62 := Nat.le_trans zs60 (Keep.of_wr W61).1
 have kp62 := kp60.wr W61 (own_i0)
 refine own_iik X61 q d16_32 rfl (show ((1 : Int32) + (1 : Int32)) = (2 : Int32) by decide) (l' := #[.val (.ref a1), .val v'2, .val (.ref b), .val v'1, .val v'2, .val v'1, .val (.int x1)]) rfl (own_iik X61 q d16_35 rfl (show ((1 : Int32) + (1 : Int32)) = (2 : Int32) by decide) (l' := #[.val (.ref a1), .val v'2, .val (.ref b), .val v'2, .val v'2, .val v'1, .val (.int x1)]) rfl (own_iik X61 q d16_38 rfl (show ((1 : Int32) + (1 : Int32)) = (2 : Int32) by decide) (l' := #[.val (.ref a1), .val v'2, .val (.ref b), .val v'2, .val v'2, .val v'2, .val (.int x1)]) rfl (own_gt X61 q d16_41 (own_il X61 q d16_3 rfl (own_il X61 q d16_5 rfl (own_cy X61 q d16_7 ((flt (Int32.lt_irrefl : ¬ ((2 : Int32) < (2 : Int32)))).2.1) (own_il X61 q d16_44 rfl ?_)))))))
 refine own_rI X61 q hrt d16_46 hlk (by decide) ?_
 show QC2a Z b k2 x0 x1 h0 n0 _ T61.heap _
 rw [e61]
 exact ⟨rfl, N61, kp62, V61⟩
theorem rm15_2 (l : Launch) (Z : State) (a0 : Array Value) (hw : own_hw a0 Z) (a1 : Addr) (k1 : ClassId) (x0 x1 : Int32) (h0 : Heap) (n0 : Nat) (Z0 : n0 ≤ h0.size) (VA : Arv Z h0 a1 k1 .char (2 : Int32) [(.int x0), (.int x1)] v'0) (hc0 : own_c8 x0) (hc1 : own_c8 x1) :
  own_M l Z [] own_y5 b'15 6 (some (.array .byte)) ⟨1, 1, 2, 18⟩ #[(.ref a1), v'0, v'2] h0 (QC2b Z x0 x1 h0 n0) := by
 refine own_start (n0 := n0) hw "java/lang/StringUTF16" (L := #[.val (.ref a1), .val v'0, .val v'2, .unset, .unset, .unset]) pn_15 (fun {p e s m below meth c s₁} q hx W hml hZ hown hnm hlk hrt X0 e0 N0 => ?_)
 have kp0 := Keep.refl h0 []
 refine own_iln X0 q d15_0 rfl ?_
 refine own_let ?_; intro g68_
 obtain ⟨T69, h69, k69, X69, e69, E69, A69, st69⟩ := newP X0 hx hZ (W 20 rfl) e0 (g := g68_) rfl (q.d d15_1) rfl (by decide) (cap := 2) (by decide) (by decide) (by decide) (by decide)
 obtain ⟨b69, g69⟩ : ∃ z, z = h0.size := ⟨_, rfl⟩
 rw [← g69] at A69 st69
 have V69 : Arv Z h69 b69 k69 .byte (2 : Int32) [v'0, v'0] v'0 := (Arv.new A69 (by decide)).pad (pad_rep [] v'0 2)
 have zs70 := Nat.le_trans Z0 E69.1
 have kp70 := kp0.ext E69
 have g_b69 : n0 ≤ b69 := Nat.le_trans Z0 (Nat.le_of_eq g69.symm)
 have sz_b69 : h0.size ≤ b69 := Nat.le_trans kp0.1 (Nat.le_of_eq g69.symm)
 refine own_stp 3 st69 (own_asn X69 q d15_3 rfl (l' := #[.val (.ref a1), .val v'0, .val v'2, .val (.ref b69), .unset, .unset]) rfl (own_aln X69 q d15_4 rfl rfl (own_iln X69 q d15_5 rfl (own_aln X69 q d15_6 rfl rfl (own_k X69 q d15_7 (own_iln X69 q d15_8 rfl ?_))))))
 refine own_cSh X69 q hZ e69 hown hml (W 75 rfl) (W 76 rfl) (W 73 rfl) (W 77 rfl) (rm16_2 l Z a0 hw a1 b69 k1 k69 x0 x1 h69 n0 zs70 (VA.ext E69) V69 g_b69 (own_ne (VA).lt (Nat.le_of_eq g69.symm)) hc0 hc1) d15_9 [(.ref a1), v'0, (.ref b69), v'0, v'2] [] own_pd0 rfl rfl 0 (Nat.le_refl _) (by decide) (fun v71 T71 L71 h71 e71' X71 hQ71 => ?_)
 obtain ⟨rfl, N71q, K71, V71⟩ := hQ71
 have N71 := Fr.app N0 N71q
 have zs72 := Nat.le_trans zs70 K71.1
 have kp72 := kp70.trans K71 (allS (Or.inr sz_b69) all0)
 refine own_nv (own_is X71 q d15_12 (l' := #[.val (.ref a1), .val v'0, .val v'2, .val (.ref b69), .val v'2, .unset]) rfl (own_il X71 q d15_14 rfl (own_iln X71 q d15_16 rfl (own_cy X71 q d15_17 ((teq (rfl : (2 : Int32) = (2 : Int32))).1) (own_aln X71 q d15_57 rfl rfl ?_)))))
 refine own_rA X71 q hrt d15_58 hlk (by decide) ?_
 show QC2b Z x0 x1 h0 n0 _ T71.heap _
 rw [e71']
 exact ⟨_, _, rfl, N71, own_extK kp72, sz_b69, V71⟩
theorem rm17_2 (l : Launch) (Z : State) (a0 : Array Value) (hw : own_hw a0 Z) (a1 : Addr) (k1 : ClassId) (vs : List Value) (h0 : Heap) (n0 : Nat) (Z0 : n0 ≤ h0.size) (VA : Arv Z h0 a1 k1 .byte (2 : Int32) vs v'0) :
  own_M l Z [] own_y6 b'17 2 (some .byte) ⟨0, 0, 0, 0⟩ #[(.ref a1), v'2] h0 (QI (0 : Int32) h0 n0) := by
 refine own_start (n0 := n0) hw "java/lang/StringUTF16" (L := #[.val (.ref a1), .val v'2]) pn_17 (fun {p e s m below meth c s₁} q hx W hml hZ hown hnm hlk hrt X0 e0 N0 => ?_)
 refine own_iln X0 q d17_0 rfl (own_aln X0 q d17_1 rfl rfl (own_alen (n := (2 : Int32)) X0 q hZ e0 VA d17_2 (own_isubk 0 X0 q d17_3 (by decide) (own_k X0 q d17_4 (own_stp 7 (fun _ k => XS.iushr X0.here hx rfl (q.d d17_6) rfl k) ?_)))))
 rw [show (((0 : Int32).toUInt32 >>> ((31 : Int32) &&& 31).toUInt32).toInt32) = (0 : Int32) from by decide]
 refine own_stp 8 (fun _ k => XS.i2b X0.here hx rfl (q.d d17_7) rfl k) ?_
 rw [show ((0 : Int32).toInt8.toInt32) = (0 : Int32) from by decide]
 refine own_rN X0 q hrt (by simp) d17_8 hlk (by decide) ?_
 show QI (0 : Int32) h0 n0 _ s₁.heap _
 rw [e0]
 exact ⟨rfl, N0, rfl⟩
theorem rm3_2 (l : Launch) (Z : State) (a0 : Array Value) (hw : own_hw a0 Z) (a1 : Addr) (a2 : Addr) (k1 : ClassId) (x0 x1 : Int32) (cs0 : Int32) (h0 : Heap) (n0 : Nat) (Z0 : n0 ≤ h0.size) (E1 : Exa Z h0 a1 "java/lang/String") (FV : F'1 Z h0 a1 .null) (FC : F'0 Z h0 a1 v'0) (VA : Arv Z h0 a2 k1 .char (2 : Int32) [(.int x0), (.int x1)] v'0) (g1 : n0 ≤ a1) (n12 : a1 ≠ a2) (O0 : Old Z n0 h0) (SC_ : own_SC Z cs0) (hc0 : own_c8 x0) (hc1 : own_c8 x1) :
  own_M l Z [] own_y7 b'3 6 none ⟨2, 1, 2, 35⟩ #[(.ref a1), (.ref a2), v'0, v'2, .null] h0 (QI2 Z a1 x0 x1 h0 n0) := by
 obtain ⟨SCS, hcs⟩ := SC_
 refine own_start (n0 := n0) hw "java/lang/String" (L := #[.val (.ref a1), .val (.ref a2), .val v'0, .val v'2, .val .null, .unset]) pn_3 (fun {p e s m below meth c s₁} q hx W hml hZ hown hnm hlk hrt X0 e0 N0 => ?_)
 have kp0 := Keep.refl h0 [a1]
 refine own_aln X0 q d3_0 rfl rfl ?_
 refine own_let ?_; intro g85_
 obtain ⟨T86, X86, e86, st86⟩ := initO X0 hx hZ hown (W 16 rfl) (W 17 rfl) (W 18 rfl) e0 (g := g85_) rfl (by rw [hml]; rfl) rfl (q.d d3_1) (by decide) (W := 0) (by show 2 * 0 + _ ≤ _; exact Nat.le_of_eq rfl) (by decide)
 refine own_stp 4 st86 (own_iln X86 q d3_4 rfl (own_zy X86 q d3_5 (((if0 _ _).trans (feq ((by decide) : ¬ ((2 : Int32) = (0 : Int32)))).2)) ?_))
 refine own_gS X86 q hZ e86 hown (W 46 rfl) (SCS.ext O0.2) d3_27 fun T87 X87 e87 => ?_
 refine own_zn X87 q d3_30 (((if0 _ _).trans (feq hcs).1)) (own_aln X87 q d3_33 rfl rfl (own_iln X87 q d3_34 rfl (own_iln X87 q d3_35 rfl ?_)))
 refine own_cSh X87 q hZ e87 hown hml (W 71 rfl) (W 72 rfl) (W 73 rfl) (W 74 rfl) (rm15_2 l Z a0 hw a2 k1 x0 x1 h0 n0 Z0 VA hc0 hc1) d3_36 [(.ref a2), v'0, v'2] [] own_pd1 rfl rfl 0 (Nat.le_refl _) (by decide) (fun v88 T88 L88 h88 e88' X88 hQ88 => ?_)
 obtain ⟨b88, k88, rfl, N88q, E88, lo88, V88⟩ := hQ88
 have N88 := Fr.app N0 N88q
 have zs89 := Nat.le_trans Z0 E88.1
 have od89 := O0.ext E88
 have kp89 := kp0.ext E88
 have g_b88 : n0 ≤ b88 := Nat.le_trans Z0 lo88
 have sz_b88 : h0.size ≤ b88 := Nat.le_trans kp0.1 lo88
 refine own_nv (own_as X88 q d3_39 rfl (l' := #[.val (.ref a1), .val (.ref a2), .val v'0, .val v'2, .val .null, .val (.ref b88)]) rfl (own_aln X88 q d3_41 rfl rfl (own_al X88 q d3_42 rfl rfl (own_iln X88 q d3_44 rfl ?_))))
 refine own_cS X88 q hZ e88' hown hml (W 78 rfl) (W 79 rfl) (W 73 rfl) (W 80 rfl) (rm17_2 l Z a0 hw b88 k88 _ h88 n0 zs89 V88) d3_45 [(.ref b88), v'2] [(.ref a1)] own_pd2 rfl rfl 1 (Nat.le_refl _) (by decide) (fun v90 T90 L90 X90 hQ90 => ?_)
 obtain ⟨rfl, N90q, e90⟩ := hQ90
 have N90 := Fr.app N88 N90q
 refine own_nv ?_
 refine own_let ?_; intro g91_
 obtain ⟨T92, h92, X92, e92, W92, st92⟩ := putFN X90 hx hZ hown (W 26 rfl) Via.refl e90 (FC.ext E88) (E1.ext E88) (Or.inr ⟨(W 22 rfl), rfl, hnm⟩) (W 6 rfl) (ty := .byte) (v' := v'0) (by decide) rfl rfl (g := g91_) rfl rfl (q.d d3_48)
 have zs93 := Nat.le_trans zs89 (Keep.of_wr W92).1
 have od93 := od89.wr W92 g1
 have kp93 := kp89.wr W92 (own_i0)
 have Fw92 := ((FC.ext E88)).same W92
 have N92 := Fr.snoc X92 N90 g1
 refine own_stp 51 st92 (own_aln X92 q d3_51 rfl rfl (own_al X92 q d3_52 rfl rfl ?_))
 refine own_let ?_; intro g94_
 obtain ⟨T95, h95, X95, e95, W95, st95⟩ := putF X92 hx hZ hown (host := "") (Or.inl (W 25 rfl)) Via.refl e92 ((FV.ext E88).other W92 (Or.inr (slot_ne (Or.inr (W 21 rfl)) (Or.inr (W 22 rfl)) (by decide) (t := (.array .byte)) (t' := .byte) (by decide) (by decide)))) ((E1.ext E88).wr W92) (Or.inr ⟨(W 21 rfl), rfl, hnm⟩) (W 6 rfl) (ty := (.array .byte)) (by decide) rfl rfl (g := g94_) rfl rfl (q.d d3_54)
 have zs96 := Nat.le_trans zs93 (Keep.of_wr W95).1
 have od96 := od93.wr W95 g1
 have kp96 := kp93.wr W95 (own_i0)
 have Fw95 := (((FV.ext E88).other W92 (Or.inr (slot_ne (Or.inr (W 21 rfl)) (Or.inr (W 22 rfl)) (by decide) (t := (.array .byte)) (t' := .byte) (by decide) (by decide))))).same W95
 have N95 := Fr.snoc X95 N92 g1
 refine own_stp 57 st95 ?_
 refine own_rV X95 q hrt d3_57 hlk (by decide) ?_
 show QI2 Z a1 x0 x1 h0 n0 _ T95.heap _
 rw [e95]
 exact ⟨_, _, rfl, N95, kp96, Fw95, (Fw92.other W95 (Or.inr (slot_ne (Or.inr (W 22 rfl)) (Or.inr (W 21 rfl)) (by decide) (t := .byte) (t' := (.array .byte)) (by decide) (by decide)))), ((V88.other W92 (Ne.symm (own_ne (E1).lt lo88))).other W95 (Ne.symm (own_ne (E1).lt lo88)))⟩
theorem rm2_2 (l : Launch) (Z : State) (a0 : Array Value) (hw : own_hw a0 Z) (a1 : Addr) (a2 : Addr) (k1 : ClassId) (x0 x1 : Int32) (cs0 : Int32) (h0 : Heap) (n0 : Nat) (Z0 : n0 ≤ h0.size) (E1 : Exa Z h0 a1 "java/lang/String") (FV : F'1 Z h0 a1 .null) (FC : F'0 Z h0 a1 v'0) (VA : Arv Z h0 a2 k1 .char (2 : Int32) [(.int x0), (.int x1)] v'0) (g1 : n0 ≤ a1) (n12 : a1 ≠ a2) (O0 : Old Z n0 h0) (SC_ : own_SC Z cs0) (hc0 : own_c8 x0) (hc1 : own_c8 x1) :
  own_M l Z [] own_y8 b'2 2 none ⟨3, 1, 2, 52⟩ #[(.ref a1), (.ref a2)] h0 (QI2 Z a1 x0 x1 h0 n0) := by
 obtain ⟨SCS, hcs⟩ := SC_
 refine own_start (n0 := n0) hw "java/lang/String" (L := #[.val (.ref a1), .val (.ref a2)]) pn_2 (fun {p e s m below meth c s₁} q hx W hml hZ hown hnm hlk hrt X0 e0 N0 => ?_)
 have kp0 := Keep.refl h0 [a1]
 refine own_aln X0 q d2_0 rfl rfl (own_aln X0 q d2_1 rfl rfl (own_k X0 q d2_2 (own_aln X0 q d2_3 rfl rfl (own_alen (n := (2 : Int32)) X0 q hZ e0 VA d2_4 (own_nl X0 q d2_5 ?_)))))
 refine own_cIh (a := a1) X0 q hZ e0 hown hml (W 12 rfl) (W 13 rfl) (W 7 rfl) (W 15 rfl) (rm3_2 l Z a0 hw a1 a2 k1 x0 x1 cs0 h0 n0 Z0 E1 FV FC VA g1 n12 O0 ⟨SCS, hcs⟩ hc0 hc1) d2_6 [(.ref a2), v'0, v'2, .null] [] own_pd3 rfl rfl 0 (Nat.le_refl _) rfl (by decide) (fun v99 T99 L99 h99 e99' X99 hQ99 => ?_)
 obtain ⟨t99, k99, rfl, N99q, K99, Fv99, Fc99, V99⟩ := hQ99
 have N99 := Fr.app N0 N99q
 have zs100 := Nat.le_trans Z0 K99.1
 have od100 := O0.keep K99 (allS g1 all0)
 have kp100 := kp0.trans K99 (allS (own_i0) all0)
 refine own_nn ?_
 refine own_rV X99 q hrt d2_9 hlk (by decide) ?_
 show QI2 Z a1 x0 x1 h0 n0 _ T99.heap _
 rw [e99']
 exact ⟨_, _, rfl, N99, kp100, Fv99, Fc99, V99⟩
theorem rm16_3 (l : Launch) (Z : State) (a0 : Array Value) (hw : own_hw a0 Z) (a1 : Addr) (b : Addr) (k1 k2 : ClassId) (x0 x1 x2 : Int32) (h0 : Heap) (n0 : Nat) (Z0 : n0 ≤ h0.size) (VA : Arv Z h0 a1 k1 .char (3 : Int32) [(.int x0), (.int x1), (.int x2)] v'0) (VB : Arv Z h0 b k2 .byte (3 : Int32) [v'0, v'0, v'0] v'0) (gb : n0 ≤ b) (nab : a1 ≠ b) (hc0 : own_c8 x0) (hc1 : own_c8 x1) (hc2 : own_c8 x2) :
  own_M l Z [] own_y4 b'16 7 (some .int) ⟨0, 0, 0, 0⟩ #[(.ref a1), v'0, (.ref b), v'0, v'3] h0 (QC3a Z b k2 x0 x1 x2 h0 n0) := by
 refine own_start (n0 := n0) hw "java/lang/StringUTF16" (L := #[.val (.ref a1), .val v'0, .val (.ref b), .val v'0, .val v'3, .unset, .unset]) pn_16 (fun {p e s m below meth c s₁} q hx W hml hZ hown hnm hlk hrt X0 e0 N0 => ?_)
 have kp0 := Keep.refl h0 [b]
 refine own_k X0 q d16_0 (own_is X0 q d16_1 (l' := #[.val (.ref a1), .val v'0, .val (.ref b), .val v'0, .val v'3, .val v'0, .unset]) rfl (own_il X0 q d16_3 rfl (own_il X0 q d16_5 rfl (own_cn X0 q d16_7 ((tlt ((by decide) : (0 : Int32) < (3 : Int32))).2.1) (own_aln X0 q d16_10 rfl rfl (own_iln X0 q d16_11 rfl (own_cld (v := (.int x0)) X0 q hZ e0 VA d16_12 (by decide) rfl (own_is X0 q d16_13 (l' := #[.val (.ref a1), .val v'0, .val (.ref b), .val v'0, .val v'3, .val v'0, .val (.int x0)]) rfl (own_il X0 q d16_15 rfl (own_k X0 q d16_17 (own_cy X0 q d16_20 ((flt ((own_le255 hc0) : ¬ ((255 : Int32) < x0))).2.2.2) ?_)))))))))))
 refine own_aln X0 q d16_26 rfl rfl (own_iln X0 q d16_27 rfl (own_il X0 q d16_28 rfl (own_stp 31 (fun _ k => XS.i2b X0.here hx rfl (q.d d16_30) rfl k) ?_)))
 refine own_bst X0 q hZ e0 VB d16_31 (by decide) (Nat.le_of_ble_eq_true rfl) N0 gb fun T107 h107 X107 e107 W107 V107 N107 => ?_
 have zs108 := Nat.le_trans Z0 (Keep.of_wr W107).1
 have kp108 := kp0.wr W107 (own_i0)
 refine own_iik X107 q d16_32 rfl (show ((0 : Int32) + (1 : Int32)) = (1 : Int32) by decide) (l' := #[.val (.ref a1), .val v'1, .val (.ref b), .val v'0, .val v'3, .val v'0, .val (.int x0)]) rfl (own_iik X107 q d16_35 rfl (show ((0 : Int32) + (1 : Int32)) = (1 : Int32) by decide) (l' := #[.val (.ref a1), .val v'1, .val (.ref b), .val v'1, .val v'3, .val v'0, .val (.int x0)]) rfl (own_iik X107 q d16_38 rfl (show ((0 : Int32) + (1 : Int32)) = (1 : Int32) by decide) (l' := #[.val (.ref a1), .val v'1, .val (.ref b), .val v'1, .val v'3, .val v'1, .val (.int x0)]) rfl (own_gt X107 q d16_41 (own_il X107 q d16_3 rfl (own_il X107 q d16_5 rfl (own_cn X107 q d16_7 ((tlt ((by decide) : (1 : Int32) < (3 : Int32))).2.1) (own_aln X107 q d16_10 rfl rfl (own_iln X107 q d16_11 rfl (own_cld (v := (.int x1)) X107 q hZ e107 (VA.other W107 nab) d16_12 (by decide) rfl (own_is X107 q d16_13 (l' := #[.val (.ref a1), .val v'1, .val (.ref b), .val v'1, .val v'3, .val v'1, .val (.int x1)]) rfl (own_il X107 q d16_15 rfl ?_)))))))))))
 refine own_k X107 q d16_17 (own_cy X107 q d16_20 ((flt ((own_le255 hc1) : ¬ ((255 : Int32) < x1))).2.2.2) (own_aln X107 q d16_26 rfl rfl (own_iln X107 q d16_27 rfl (own_il X107 q d16_28 rfl (own_stp 31 (fun _ k => XS.i2b X107.here hx rfl (q.d d16_30) rfl k) ?_)))))
 refine own_bst X107 q hZ e107 V107 d16_31 (by decide) (Nat.le_of_ble_eq_true rfl) N107 gb fun T109 h109 X109 e109 W109 V109 N109 => ?_
 have zs110 := Nat.le_trans zs108 (Keep.of_wr W109).1
 have kp110 := kp108.wr W109 (own_i0)
 refine own_iik X109 q d16_32 rfl (show ((1 : Int32) + (1 : Int32)) = (2 : Int32) by decide) (l' := #[.val (.ref a1), .val v'2, .val (.ref b), .val v'1, .val v'3, .val v'1, .val (.int x1)]) rfl (own_iik X109 q d16_35 rfl (show ((1 : Int32) + (1 : Int32)) = (2 : Int32) by decide) (l' := #[.val (.ref a1), .val v'2, .val (.ref b), .val v'2, .val v'3, .val v'1, .val (.int x1)]) rfl (own_iik X109 q d16_38 rfl (show ((1 : Int32) + (1 : Int32)) = (2 : Int32) by decide) (l' := #[.val (.ref a1), .val v'2, .val (.ref b), .val v'2, .val v'3, .val v'2, .val (.int x1)]) rfl (own_gt X109 q d16_41 (own_il X109 q d16_3 rfl (own_il X109 q d16_5 rfl (own_cn X109 q d16_7 ((tlt ((by decide) : (2 : Int32) < (3 : Int32))).2.1) (own_aln X109 q d16_10 rfl rfl (own_iln X109 q d16_11 rfl (own_cld (v := (.int x2)) X109 q hZ e109 ((VA.other W107 nab).other W109 nab) d16_12 (by decide) rfl (own_is X109 q d16_13 (l' := #[.val (.ref a1), .val v'2, .val (.ref b), .val v'2, .val v'3, .val v'2, .val (.int x2)]) rfl (own_il X109 q d16_15 rfl ?_)))))))))))
 refine own_k X109 q d16_17 (own_cy X109 q d16_20 ((flt ((own_le255 hc2) : ¬ ((255 : Int32) < x2))).2.2.2) (own_aln X109 q d16_26 rfl rfl (own_iln X109 q d16_27 rfl (own_il X109 q d16_28 rfl (own_stp 31 (fun _ k => XS.i2b X109.here hx rfl (q.d d16_30) rfl k) ?_)))))
 refine own_bst X109 q hZ e109 V109 d16_31 (by decide) (Nat.le_of_ble_eq_true rfl) N109 gb fun T111 h111 X111 e111 W111 V111 N111 => ?_
 have zs112 := Nat.le_trans zs110 (Keep.of_wr W111).1
 have kp112 := kp110.wr W111 (own_i0)
 refine own_iik X111 q d16_32 rfl (show ((2 : Int32) + (1 : Int32)) = (3 : Int32) by decide) (l' := #[.val (.ref a1), .val v'3, .val (.ref b), .val v'2, .val v'3, .val v'2, .val (.int x2)]) rfl (own_iik X111 q d16_35 rfl (show ((2 : Int32) + (1 : Int32)) = (3 : Int32) by decide) (l' := #[.val (.ref a1), .val v'3, .val (.ref b), .val v'3, .val v'3, .val v'2, .val (.int x2)]) rfl (own_iik X111 q d16_38 rfl (show ((2 : Int32) + (1 : Int32)) = (3 : Int32) by decide) (l' := #[.val (.ref a1), .val v'3, .val (.ref b), .val v'3, .val v'3, .val v'3, .val (.int x2)]) rfl (own_gt X111 q d16_41 (own_il X111 q d16_3 rfl (own_il X111 q d16_5 rfl (own_cy X111 q d16_7 ((flt (Int32.lt_irrefl : ¬ ((3 : Int32) < (3 : Int32)))).2.1) (own_il X111 q d16_44 rfl ?_)))))))
 refine own_rI X111 q hrt d16_46 hlk (by decide) ?_
 show QC3a Z b k2 x0 x1 x2 h0 n0 _ T111.heap _
 rw [e111]
 exact ⟨rfl, N111, kp112, V111⟩
theorem rm15_3 (l : Launch) (Z : State) (a0 : Array Value) (hw : own_hw a0 Z) (a1 : Addr) (k1 : ClassId) (x0 x1 x2 : Int32) (h0 : Heap) (n0 : Nat) (Z0 : n0 ≤ h0.size) (VA : Arv Z h0 a1 k1 .char (3 : Int32) [(.int x0), (.int x1), (.int x2)] v'0) (hc0 : own_c8 x0) (hc1 : own_c8 x1) (hc2 : own_c8 x2) :
  own_M l Z [] own_y5 b'15 6 (some (.array .byte)) ⟨1, 1, 3, 18⟩ #[(.ref a1), v'0, v'3] h0 (QC3b Z x0 x1 x2 h0 n0) := by
 refine own_start (n0 := n0) hw "java/lang/StringUTF16" (L := #[.val (.ref a1), .val v'0, .val v'3, .unset, .unset, .unset]) pn_15 (fun {p e s m below meth c s₁} q hx W hml hZ hown hnm hlk hrt X0 e0 N0 => ?_)
 have kp0 := Keep.refl h0 []
 refine own_iln X0 q d15_0 rfl ?_
 refine own_let ?_; intro g118_
 obtain ⟨T119, h119, k119, X119, e119, E119, A119, st119⟩ := newP X0 hx hZ (W 20 rfl) e0 (g := g118_) rfl (q.d d15_1) rfl (by decide) (cap := 3) (by decide) (by decide) (by decide) (by decide)
 obtain ⟨b119, g119⟩ : ∃ z, z = h0.size := ⟨_, rfl⟩
 rw [← g119] at A119 st119
 have V119 : Arv Z h119 b119 k119 .byte (3 : Int32) [v'0, v'0, v'0] v'0 := (Arv.new A119 (by decide)).pad (pad_rep [] v'0 3)
 have zs120 := Nat.le_trans Z0 E119.1
 have kp120 := kp0.ext E119
 have g_b119 : n0 ≤ b119 := Nat.le_trans Z0 (Nat.le_of_eq g119.symm)
 have sz_b119 : h0.size ≤ b119 := Nat.le_trans kp0.1 (Nat.le_of_eq g119.symm)
 refine own_stp 3 st119 (own_asn X119 q d15_3 rfl (l' := #[.val (.ref a1), .val v'0, .val v'3, .val (.ref b119), .unset, .unset]) rfl (own_aln X119 q d15_4 rfl rfl (own_iln X119 q d15_5 rfl (own_aln X119 q d15_6 rfl rfl (own_k X119 q d15_7 (own_iln X119 q d15_8 rfl ?_))))))
 refine own_cSh X119 q hZ e119 hown hml (W 75 rfl) (W 76 rfl) (W 73 rfl) (W 77 rfl) (rm16_3 l Z a0 hw a1 b119 k1 k119 x0 x1 x2 h119 n0 zs120 (VA.ext E119) V119 g_b119 (own_ne (VA).lt (Nat.le_of_eq g119.symm)) hc0 hc1 hc2) d15_9 [(.ref a1), v'0, (.ref b119), v'0, v'3] [] own_pd0 rfl rfl 0 (Nat.le_refl _) (by decide) (fun v121 T121 L121 h121 e121' X121 hQ121 => ?_)
 obtain ⟨rfl, N121q, K121, V121⟩ := hQ121
 have N121 := Fr.app N0 N121q
 have zs122 := Nat.le_trans zs120 K121.1
 have kp122 := kp120.trans K121 (allS (Or.inr sz_b119) all0)
 refine own_nv (own_is X121 q d15_12 (l' := #[.val (.ref a1), .val v'0, .val v'3, .val (.ref b119), .val v'3, .unset]) rfl (own_il X121 q d15_14 rfl (own_iln X121 q d15_16 rfl (own_cy X121 q d15_17 ((teq (rfl : (3 : Int32) = (3 : Int32))).1) (own_aln X121 q d15_57 rfl rfl ?_)))))
 refine own_rA X121 q hrt d15_58 hlk (by decide) ?_
 show QC3b Z x0 x1 x2 h0 n0 _ T121.heap _
 rw [e121']
 exact ⟨_, _, rfl, N121, own_extK kp122, sz_b119, V121⟩
theorem rm17_3 (l : Launch) (Z : State) (a0 : Array Value) (hw : own_hw a0 Z) (a1 : Addr) (k1 : ClassId) (vs : List Value) (h0 : Heap) (n0 : Nat) (Z0 : n0 ≤ h0.size) (VA : Arv Z h0 a1 k1 .byte (3 : Int32) vs v'0) :
  own_M l Z [] own_y6 b'17 2 (some .byte) ⟨0, 0, 0, 0⟩ #[(.ref a1), v'3] h0 (QI (0 : Int32) h0 n0) := by
 refine own_start (n0 := n0) hw "java/lang/StringUTF16" (L := #[.val (.ref a1), .val v'3]) pn_17 (fun {p e s m below meth c s₁} q hx W hml hZ hown hnm hlk hrt X0 e0 N0 => ?_)
 refine own_iln X0 q d17_0 rfl (own_aln X0 q d17_1 rfl rfl (own_alen (n := (3 : Int32)) X0 q hZ e0 VA d17_2 (own_isubk 0 X0 q d17_3 (by decide) (own_k X0 q d17_4 (own_stp 7 (fun _ k => XS.iushr X0.here hx rfl (q.d d17_6) rfl k) ?_)))))
 rw [show (((0 : Int32).toUInt32 >>> ((31 : Int32) &&& 31).toUInt32).toInt32) = (0 : Int32) from by decide]
 refine own_stp 8 (fun _ k => XS.i2b X0.here hx rfl (q.d d17_7) rfl k) ?_
 rw [show ((0 : Int32).toInt8.toInt32) = (0 : Int32) from by decide]
 refine own_rN X0 q hrt (by simp) d17_8 hlk (by decide) ?_
 show QI (0 : Int32) h0 n0 _ s₁.heap _
 rw [e0]
 exact ⟨rfl, N0, rfl⟩
theorem rm3_3 (l : Launch) (Z : State) (a0 : Array Value) (hw : own_hw a0 Z) (a1 : Addr) (a2 : Addr) (k1 : ClassId) (x0 x1 x2 : Int32) (cs0 : Int32) (h0 : Heap) (n0 : Nat) (Z0 : n0 ≤ h0.size) (E1 : Exa Z h0 a1 "java/lang/String") (FV : F'1 Z h0 a1 .null) (FC : F'0 Z h0 a1 v'0) (VA : Arv Z h0 a2 k1 .char (3 : Int32) [(.int x0), (.int x1), (.int x2)] v'0) (g1 : n0 ≤ a1) (n12 : a1 ≠ a2) (O0 : Old Z n0 h0) (SC_ : own_SC Z cs0) (hc0 : own_c8 x0) (hc1 : own_c8 x1) (hc2 : own_c8 x2) :
  own_M l Z [] own_y7 b'3 6 none ⟨2, 1, 3, 35⟩ #[(.ref a1), (.ref a2), v'0, v'3, .null] h0 (QI3 Z a1 x0 x1 x2 h0 n0) := by
 obtain ⟨SCS, hcs⟩ := SC_
 refine own_start (n0 := n0) hw "java/lang/String" (L := #[.val (.ref a1), .val (.ref a2), .val v'0, .val v'3, .val .null, .unset]) pn_3 (fun {p e s m below meth c s₁} q hx W hml hZ hown hnm hlk hrt X0 e0 N0 => ?_)
 have kp0 := Keep.refl h0 [a1]
 refine own_aln X0 q d3_0 rfl rfl ?_
 refine own_let ?_; intro g135_
 obtain ⟨T136, X136, e136, st136⟩ := initO X0 hx hZ hown (W 16 rfl) (W 17 rfl) (W 18 rfl) e0 (g := g135_) rfl (by rw [hml]; rfl) rfl (q.d d3_1) (by decide) (W := 0) (by show 2 * 0 + _ ≤ _; exact Nat.le_of_eq rfl) (by decide)
 refine own_stp 4 st136 (own_iln X136 q d3_4 rfl (own_zy X136 q d3_5 (((if0 _ _).trans (feq ((by decide) : ¬ ((3 : Int32) = (0 : Int32)))).2)) ?_))
 refine own_gS X136 q hZ e136 hown (W 46 rfl) (SCS.ext O0.2) d3_27 fun T137 X137 e137 => ?_
 refine own_zn X137 q d3_30 (((if0 _ _).trans (feq hcs).1)) (own_aln X137 q d3_33 rfl rfl (own_iln X137 q d3_34 rfl (own_iln X137 q d3_35 rfl ?_)))
 refine own_cSh X137 q hZ e137 hown hml (W 71 rfl) (W 72 rfl) (W 73 rfl) (W 74 rfl) (rm15_3 l Z a0 hw a2 k1 x0 x1 x2 h0 n0 Z0 VA hc0 hc1 hc2) d3_36 [(.ref a2), v'0, v'3] [] own_pd1 rfl rfl 0 (Nat.le_refl _) (by decide) (fun v138 T138 L138 h138 e138' X138 hQ138 => ?_)
 obtain ⟨b138, k138, rfl, N138q, E138, lo138, V138⟩ := hQ138
 have N138 := Fr.app N0 N138q
 have zs139 := Nat.le_trans Z0 E138.1
 have od139 := O0.ext E138
 have kp139 := kp0.ext E138
 have g_b138 : n0 ≤ b138 := Nat.le_trans Z0 lo138
 have sz_b138 : h0.size ≤ b138 := Nat.le_trans kp0.1 lo138
 refine own_nv (own_as X138 q d3_39 rfl (l' := #[.val (.ref a1), .val (.ref a2), .val v'0, .val v'3, .val .null, .val (.ref b138)]) rfl (own_aln X138 q d3_41 rfl rfl (own_al X138 q d3_42 rfl rfl (own_iln X138 q d3_44 rfl ?_))))
 refine own_cS X138 q hZ e138' hown hml (W 78 rfl) (W 79 rfl) (W 73 rfl) (W 80 rfl) (rm17_3 l Z a0 hw b138 k138 _ h138 n0 zs139 V138) d3_45 [(.ref b138), v'3] [(.ref a1)] own_pd2 rfl rfl 1 (Nat.le_refl _) (by decide) (fun v140 T140 L140 X140 hQ140 => ?_)
 obtain ⟨rfl, N140q, e140⟩ := hQ140
 have N140 := Fr.app N138 N140q
 refine own_nv ?_
 refine own_let ?_; intro g141_
 obtain ⟨T142, h142, X142, e142, W142, st142⟩ := putFN X140 hx hZ hown (W 26 rfl) Via.refl e140 (FC.ext E138) (E1.ext E138) (Or.inr ⟨(W 22 rfl), rfl, hnm⟩) (W 6 rfl) (ty := .byte) (v' := v'0) (by decide) rfl rfl (g := g141_) rfl rfl (q.d d3_48)
 have zs143 := Nat.le_trans zs139 (Keep.of_wr W142).1
 have od143 := od139.wr W142 g1
 have kp143 := kp139.wr W142 (own_i0)
 have Fw142 := ((FC.ext E138)).same W142
 have N142 := Fr.snoc X142 N140 g1
 refine own_stp 51 st142 (own_aln X142 q d3_51 rfl rfl (own_al X142 q d3_52 rfl rfl ?_))
 refine own_let ?_; intro g144_
 obtain ⟨T145, h145, X145, e145, W145, st145⟩ := putF X142 hx hZ hown (host := "") (Or.inl (W 25 rfl)) Via.refl e142 ((FV.ext E138).other W142 (Or.inr (slot_ne (Or.inr (W 21 rfl)) (Or.inr (W 22 rfl)) (by decide) (t := (.array .byte)) (t' := .byte) (by decide) (by decide)))) ((E1.ext E138).wr W142) (Or.inr ⟨(W 21 rfl), rfl, hnm⟩) (W 6 rfl) (ty := (.array .byte)) (by decide) rfl rfl (g := g144_) rfl rfl (q.d d3_54)
 have zs146 := Nat.le_trans zs143 (Keep.of_wr W145).1
 have od146 := od143.wr W145 g1
 have kp146 := kp143.wr W145 (own_i0)
 have Fw145 := (((FV.ext E138).other W142 (Or.inr (slot_ne (Or.inr (W 21 rfl)) (Or.inr (W 22 rfl)) (by decide) (t := (.array .byte)) (t' := .byte) (by decide) (by decide))))).same W145
 have N145 := Fr.snoc X145 N142 g1
 refine own_stp 57 st145 ?_
 refine own_rV X145 q hrt d3_57 hlk (by decide) ?_
 show QI3 Z a1 x0 x1 x2 h0 n0 _ T145.heap _
 rw [e145]
 exact ⟨_, _, rfl, N145, kp146, Fw145, (Fw142.other W145 (Or.inr (slot_ne (Or.inr (W 22 rfl)) (Or.inr (W 21 rfl)) (by decide) (t := .byte) (t' := (.array .byte)) (by decide) (by decide)))), ((V138.other W142 (Ne.symm (own_ne (E1).lt lo138))).other W145 (Ne.symm (own_ne (E1).lt lo138)))⟩
theorem rm2_3 (l : Launch) (Z : State) (a0 : Array Value) (hw : own_hw a0 Z) (a1 : Addr) (a2 : Addr) (k1 : ClassId) (x0 x1 x2 : Int32) (cs0 : Int32) (h0 : Heap) (n0 : Nat) (Z0 : n0 ≤ h0.size) (E1 : Exa Z h0 a1 "java/lang/String") (FV : F'1 Z h0 a1 .null) (FC : F'0 Z h0 a1 v'0) (VA : Arv Z h0 a2 k1 .char (3 : Int32) [(.int x0), (.int x1), (.int x2)] v'0) (g1 : n0 ≤ a1) (n12 : a1 ≠ a2) (O0 : Old Z n0 h0) (SC_ : own_SC Z cs0) (hc0 : own_c8 x0) (hc1 : own_c8 x1) (hc2 : own_c8 x2) :
  own_M l Z [] own_y8 b'2 2 none ⟨3, 1, 3, 52⟩ #[(.ref a1), (.ref a2)] h0 (QI3 Z a1 x0 x1 x2 h0 n0) := by
 obtain ⟨SCS, hcs⟩ := SC_
 refine own_start (n0 := n0) hw "java/lang/String" (L := #[.val (.ref a1), .val (.ref a2)]) pn_2 (fun {p e s m below meth c s₁} q hx W hml hZ hown hnm hlk hrt X0 e0 N0 => ?_)
 have kp0 := Keep.refl h0 [a1]
 refine own_aln X0 q d2_0 rfl rfl (own_aln X0 q d2_1 rfl rfl (own_k X0 q d2_2 (own_aln X0 q d2_3 rfl rfl (own_alen (n := (3 : Int32)) X0 q hZ e0 VA d2_4 (own_nl X0 q d2_5 ?_)))))
 refine own_cIh (a := a1) X0 q hZ e0 hown hml (W 12 rfl) (W 13 rfl) (W 7 rfl) (W 15 rfl) (rm3_3 l Z a0 hw a1 a2 k1 x0 x1 x2 cs0 h0 n0 Z0 E1 FV FC VA g1 n12 O0 ⟨SCS, hcs⟩ hc0 hc1 hc2) d2_6 [(.ref a2), v'0, v'3, .null] [] own_pd3 rfl rfl 0 (Nat.le_refl _) rfl (by decide) (fun v149 T149 L149 h149 e149' X149 hQ149 => ?_)
 obtain ⟨t149, k149, rfl, N149q, K149, Fv149, Fc149, V149⟩ := hQ149
 have N149 := Fr.app N0 N149q
 have zs150 := Nat.le_trans Z0 K149.1
 have od150 := O0.keep K149 (allS g1 all0)
 have kp150 := kp0.trans K149 (allS (own_i0) all0)
 refine own_nn ?_
 refine own_rV X149 q hrt d2_9 hlk (by decide) ?_
 show QI3 Z a1 x0 x1 x2 h0 n0 _ T149.heap _
 rw [e149']
 exact ⟨_, _, rfl, N149, kp150, Fv149, Fc149, V149⟩
theorem rm16_4 (l : Launch) (Z : State) (a0 : Array Value) (hw : own_hw a0 Z) (a1 : Addr) (b : Addr) (k1 k2 : ClassId) (x0 x1 x2 x3 : Int32) (h0 : Heap) (n0 : Nat) (Z0 : n0 ≤ h0.size) (VA : Arv Z h0 a1 k1 .char (4 : Int32) [(.int x0), (.int x1), (.int x2), (.int x3)] v'0) (VB : Arv Z h0 b k2 .byte (4 : Int32) [v'0, v'0, v'0, v'0] v'0) (gb : n0 ≤ b) (nab : a1 ≠ b) (hc0 : own_c8 x0) (hc1 : own_c8 x1) (hc2 : own_c8 x2) (hc3 : own_c8 x3) :
  own_M l Z [] own_y4 b'16 7 (some .int) ⟨0, 0, 0, 0⟩ #[(.ref a1), v'0, (.ref b), v'0, v'4] h0 (QC4a Z b k2 x0 x1 x2 x3 h0 n0) := by
 refine own_start (n0 := n0) hw "java/lang/StringUTF16" (L := #[.val (.ref a1), .val v'0, .val (.ref b), .val v'0, .val v'4, .unset, .unset]) pn_16 (fun {p e s m below meth c s₁} q hx W hml hZ hown hnm hlk hrt X0 e0 N0 => ?_)
 have kp0 := Keep.refl h0 [b]
 refine own_k X0 q d16_0 (own_is X0 q d16_1 (l' := #[.val (.ref a1), .val v'0, .val (.ref b), .val v'0, .val v'4, .val v'0, .unset]) rfl (own_il X0 q d16_3 rfl (own_il X0 q d16_5 rfl (own_cn X0 q d16_7 ((tlt ((by decide) : (0 : Int32) < (4 : Int32))).2.1) (own_aln X0 q d16_10 rfl rfl (own_iln X0 q d16_11 rfl (own_cld (v := (.int x0)) X0 q hZ e0 VA d16_12 (by decide) rfl (own_is X0 q d16_13 (l' := #[.val (.ref a1), .val v'0, .val (.ref b), .val v'0, .val v'4, .val v'0, .val (.int x0)]) rfl (own_il X0 q d16_15 rfl (own_k X0 q d16_17 (own_cy X0 q d16_20 ((flt ((own_le255 hc0) : ¬ ((255 : Int32) < x0))).2.2.2) ?_)))))))))))
 refine own_aln X0 q d16_26 rfl rfl (own_iln X0 q d16_27 rfl (own_il X0 q d16_28 rfl (own_stp 31 (fun _ k => XS.i2b X0.here hx rfl (q.d d16_30) rfl k) ?_)))
 refine own_bst X0 q hZ e0 VB d16_31 (by decide) (Nat.le_of_ble_eq_true rfl) N0 gb fun T159 h159 X159 e159 W159 V159 N159 => ?_
 have zs160 := Nat.le_trans Z0 (Keep.of_wr W159).1
 have kp160 := kp0.wr W159 (own_i0)
 refine own_iik X159 q d16_32 rfl (show ((0 : Int32) + (1 : Int32)) = (1 : Int32) by decide) (l' := #[.val (.ref a1), .val v'1, .val (.ref b), .val v'0, .val v'4, .val v'0, .val (.int x0)]) rfl (own_iik X159 q d16_35 rfl (show ((0 : Int32) + (1 : Int32)) = (1 : Int32) by decide) (l' := #[.val (.ref a1), .val v'1, .val (.ref b), .val v'1, .val v'4, .val v'0, .val (.int x0)]) rfl (own_iik X159 q d16_38 rfl (show ((0 : Int32) + (1 : Int32)) = (1 : Int32) by decide) (l' := #[.val (.ref a1), .val v'1, .val (.ref b), .val v'1, .val v'4, .val v'1, .val (.int x0)]) rfl (own_gt X159 q d16_41 (own_il X159 q d16_3 rfl (own_il X159 q d16_5 rfl (own_cn X159 q d16_7 ((tlt ((by decide) : (1 : Int32) < (4 : Int32))).2.1) (own_aln X159 q d16_10 rfl rfl (own_iln X159 q d16_11 rfl (own_cld (v := (.int x1)) X159 q hZ e159 (VA.other W159 nab) d16_12 (by decide) rfl (own_is X159 q d16_13 (l' := #[.val (.ref a1), .val v'1, .val (.ref b), .val v'1, .val v'4, .val v'1, .val (.int x1)]) rfl (own_il X159 q d16_15 rfl ?_)))))))))))
 refine own_k X159 q d16_17 (own_cy X159 q d16_20 ((flt ((own_le255 hc1) : ¬ ((255 : Int32) < x1))).2.2.2) (own_aln X159 q d16_26 rfl rfl (own_iln X159 q d16_27 rfl (own_il X159 q d16_28 rfl (own_stp 31 (fun _ k => XS.i2b X159.here hx rfl (q.d d16_30) rfl k) ?_)))))
 refine own_bst X159 q hZ e159 V159 d16_31 (by decide) (Nat.le_of_ble_eq_true rfl) N159 gb fun T161 h161 X161 e161 W161 V161 N161 => ?_
 have zs162 := Nat.le_trans zs160 (Keep.of_wr W161).1
 have kp162 := kp160.wr W161 (own_i0)
 refine own_iik X161 q d16_32 rfl (show ((1 : Int32) + (1 : Int32)) = (2 : Int32) by decide) (l' := #[.val (.ref a1), .val v'2, .val (.ref b), .val v'1, .val v'4, .val v'1, .val (.int x1)]) rfl (own_iik X161 q d16_35 rfl (show ((1 : Int32) + (1 : Int32)) = (2 : Int32) by decide) (l' := #[.val (.ref a1), .val v'2, .val (.ref b), .val v'2, .val v'4, .val v'1, .val (.int x1)]) rfl (own_iik X161 q d16_38 rfl (show ((1 : Int32) + (1 : Int32)) = (2 : Int32) by decide) (l' := #[.val (.ref a1), .val v'2, .val (.ref b), .val v'2, .val v'4, .val v'2, .val (.int x1)]) rfl (own_gt X161 q d16_41 (own_il X161 q d16_3 rfl (own_il X161 q d16_5 rfl (own_cn X161 q d16_7 ((tlt ((by decide) : (2 : Int32) < (4 : Int32))).2.1) (own_aln X161 q d16_10 rfl rfl (own_iln X161 q d16_11 rfl (own_cld (v := (.int x2)) X161 q hZ e161 ((VA.other W159 nab).other W161 nab) d16_12 (by decide) rfl (own_is X161 q d16_13 (l' := #[.val (.ref a1), .val v'2, .val (.ref b), .val v'2, .val v'4, .val v'2, .val (.int x2)]) rfl (own_il X161 q d16_15 rfl ?_)))))))))))
 refine own_k X161 q d16_17 (own_cy X161 q d16_20 ((flt ((own_le255 hc2) : ¬ ((255 : Int32) < x2))).2.2.2) (own_aln X161 q d16_26 rfl rfl (own_iln X161 q d16_27 rfl (own_il X161 q d16_28 rfl (own_stp 31 (fun _ k => XS.i2b X161.here hx rfl (q.d d16_30) rfl k) ?_)))))
 refine own_bst X161 q hZ e161 V161 d16_31 (by decide) (Nat.le_of_ble_eq_true rfl) N161 gb fun T163 h163 X163 e163 W163 V163 N163 => ?_
 have zs164 := Nat.le_trans zs162 (Keep.of_wr W163).1
 have kp164 := kp162.wr W163 (own_i0)
 refine own_iik X163 q d16_32 rfl (show ((2 : Int32) + (1 : Int32)) = (3 : Int32) by decide) (l' := #[.val (.ref a1), .val v'3, .val (.ref b), .val v'2, .val v'4, .val v'2, .val (.int x2)]) rfl (own_iik X163 q d16_35 rfl (show ((2 : Int32) + (1 : Int32)) = (3 : Int32) by decide) (l' := #[.val (.ref a1), .val v'3, .val (.ref b), .val v'3, .val v'4, .val v'2, .val (.int x2)]) rfl (own_iik X163 q d16_38 rfl (show ((2 : Int32) + (1 : Int32)) = (3 : Int32) by decide) (l' := #[.val (.ref a1), .val v'3, .val (.ref b), .val v'3, .val v'4, .val v'3, .val (.int x2)]) rfl (own_gt X163 q d16_41 (own_il X163 q d16_3 rfl (own_il X163 q d16_5 rfl (own_cn X163 q d16_7 ((tlt ((by decide) : (3 : Int32) < (4 : Int32))).2.1) (own_aln X163 q d16_10 rfl rfl (own_iln X163 q d16_11 rfl (own_cld (v := (.int x3)) X163 q hZ e163 (((VA.other W159 nab).other W161 nab).other W163 nab) d16_12 (by decide) rfl (own_is X163 q d16_13 (l' := #[.val (.ref a1), .val v'3, .val (.ref b), .val v'3, .val v'4, .val v'3, .val (.int x3)]) rfl (own_il X163 q d16_15 rfl ?_)))))))))))
 refine own_k X163 q d16_17 (own_cy X163 q d16_20 ((flt ((own_le255 hc3) : ¬ ((255 : Int32) < x3))).2.2.2) (own_aln X163 q d16_26 rfl rfl (own_iln X163 q d16_27 rfl (own_il X163 q d16_28 rfl (own_stp 31 (fun _ k => XS.i2b X163.here hx rfl (q.d d16_30) rfl k) ?_)))))
 refine own_bst X163 q hZ e163 V163 d16_31 (by decide) (Nat.le_of_ble_eq_true rfl) N163 gb fun T165 h165 X165 e165 W165 V165 N165 => ?_
 have zs166 := Nat.le_trans zs164 (Keep.of_wr W165).1
 have kp166 := kp164.wr W165 (own_i0)
 refine own_iik X165 q d16_32 rfl (show ((3 : Int32) + (1 : Int32)) = (4 : Int32) by decide) (l' := #[.val (.ref a1), .val v'4, .val (.ref b), .val v'3, .val v'4, .val v'3, .val (.int x3)]) rfl (own_iik X165 q d16_35 rfl (show ((3 : Int32) + (1 : Int32)) = (4 : Int32) by decide) (l' := #[.val (.ref a1), .val v'4, .val (.ref b), .val v'4, .val v'4, .val v'3, .val (.int x3)]) rfl (own_iik X165 q d16_38 rfl (show ((3 : Int32) + (1 : Int32)) = (4 : Int32) by decide) (l' := #[.val (.ref a1), .val v'4, .val (.ref b), .val v'4, .val v'4, .val v'4, .val (.int x3)]) rfl (own_gt X165 q d16_41 (own_il X165 q d16_3 rfl (own_il X165 q d16_5 rfl (own_cy X165 q d16_7 ((flt (Int32.lt_irrefl : ¬ ((4 : Int32) < (4 : Int32)))).2.1) (own_il X165 q d16_44 rfl ?_)))))))
 refine own_rI X165 q hrt d16_46 hlk (by decide) ?_
 show QC4a Z b k2 x0 x1 x2 x3 h0 n0 _ T165.heap _
 rw [e165]
 exact ⟨rfl, N165, kp166, V165⟩
theorem rm15_4 (l : Launch) (Z : State) (a0 : Array Value) (hw : own_hw a0 Z) (a1 : Addr) (k1 : ClassId) (x0 x1 x2 x3 : Int32) (h0 : Heap) (n0 : Nat) (Z0 : n0 ≤ h0.size) (VA : Arv Z h0 a1 k1 .char (4 : Int32) [(.int x0), (.int x1), (.int x2), (.int x3)] v'0) (hc0 : own_c8 x0) (hc1 : own_c8 x1) (hc2 : own_c8 x2) (hc3 : own_c8 x3) :
  own_M l Z [] own_y5 b'15 6 (some (.array .byte)) ⟨1, 1, 4, 18⟩ #[(.ref a1), v'0, v'4] h0 (QC4b Z x0 x1 x2 x3 h0 n0) := by
 refine own_start (n0 := n0) hw "java/lang/StringUTF16" (L := #[.val (.ref a1), .val v'0, .val v'4, .unset, .unset, .unset]) pn_15 (fun {p e s m below meth c s₁} q hx W hml hZ hown hnm hlk hrt X0 e0 N0 => ?_)
 have kp0 := Keep.refl h0 []
 refine own_iln X0 q d15_0 rfl ?_
 refine own_let ?_; intro g172_
 obtain ⟨T173, h173, k173, X173, e173, E173, A173, st173⟩ := newP X0 hx hZ (W 20 rfl) e0 (g := g172_) rfl (q.d d15_1) rfl (by decide) (cap := 4) (by decide) (by decide) (by decide) (by decide)
 obtain ⟨b173, g173⟩ : ∃ z, z = h0.size := ⟨_, rfl⟩
 rw [← g173] at A173 st173
 have V173 : Arv Z h173 b173 k173 .byte (4 : Int32) [v'0, v'0, v'0, v'0] v'0 := (Arv.new A173 (by decide)).pad (pad_rep [] v'0 4)
 have zs174 := Nat.le_trans Z0 E173.1
 have kp174 := kp0.ext E173
 have g_b173 : n0 ≤ b173 := Nat.le_trans Z0 (Nat.le_of_eq g173.symm)
 have sz_b173 : h0.size ≤ b173 := Nat.le_trans kp0.1 (Nat.le_of_eq g173.symm)
 refine own_stp 3 st173 (own_asn X173 q d15_3 rfl (l' := #[.val (.ref a1), .val v'0, .val v'4, .val (.ref b173), .unset, .unset]) rfl (own_aln X173 q d15_4 rfl rfl (own_iln X173 q d15_5 rfl (own_aln X173 q d15_6 rfl rfl (own_k X173 q d15_7 (own_iln X173 q d15_8 rfl ?_))))))
 refine own_cSh X173 q hZ e173 hown hml (W 75 rfl) (W 76 rfl) (W 73 rfl) (W 77 rfl) (rm16_4 l Z a0 hw a1 b173 k1 k173 x0 x1 x2 x3 h173 n0 zs174 (VA.ext E173) V173 g_b173 (own_ne (VA).lt (Nat.le_of_eq g173.symm)) hc0 hc1 hc2 hc3) d15_9 [(.ref a1), v'0, (.ref b173), v'0, v'4] [] own_pd0 rfl rfl 0 (Nat.le_refl _) (by decide) (fun v175 T175 L175 h175 e175' X175 hQ175 => ?_)
 obtain ⟨rfl, N175q, K175, V175⟩ := hQ175
 have N175 := Fr.app N0 N175q
 have zs176 := Nat.le_trans zs174 K175.1
 have kp176 := kp174.trans K175 (allS (Or.inr sz_b173) all0)
 refine own_nv (own_is X175 q d15_12 (l' := #[.val (.ref a1), .val v'0, .val v'4, .val (.ref b173), .val v'4, .unset]) rfl (own_il X175 q d15_14 rfl (own_iln X175 q d15_16 rfl (own_cy X175 q d15_17 ((teq (rfl : (4 : Int32) = (4 : Int32))).1) (own_aln X175 q d15_57 rfl rfl ?_)))))
 refine own_rA X175 q hrt d15_58 hlk (by decide) ?_
 show QC4b Z x0 x1 x2 x3 h0 n0 _ T175.heap _
 rw [e175']
 exact ⟨_, _, rfl, N175, own_extK kp176, sz_b173, V175⟩
theorem rm17_4 (l : Launch) (Z : State) (a0 : Array Value) (hw : own_hw a0 Z) (a1 : Addr) (k1 : ClassId) (vs : List Value) (h0 : Heap) (n0 : Nat) (Z0 : n0 ≤ h0.size) (VA : Arv Z h0 a1 k1 .byte (4 : Int32) vs v'0) :
  own_M l Z [] own_y6 b'17 2 (some .byte) ⟨0, 0, 0, 0⟩ #[(.ref a1), v'4] h0 (QI (0 : Int32) h0 n0) := by
 refine own_start (n0 := n0) hw "java/lang/StringUTF16" (L := #[.val (.ref a1), .val v'4]) pn_17 (fun {p e s m below meth c s₁} q hx W hml hZ hown hnm hlk hrt X0 e0 N0 => ?_)
 refine own_iln X0 q d17_0 rfl (own_aln X0 q d17_1 rfl rfl (own_alen (n := (4 : Int32)) X0 q hZ e0 VA d17_2 (own_isubk 0 X0 q d17_3 (by decide) (own_k X0 q d17_4 (own_stp 7 (fun _ k => XS.iushr X0.here hx rfl (q.d d17_6) rfl k) ?_)))))
 rw [show (((0 : Int32).toUInt32 >>> ((31 : Int32) &&& 31).toUInt32).toInt32) = (0 : Int32) from by decide]
 refine own_stp 8 (fun _ k => XS.i2b X0.here hx rfl (q.d d17_7) rfl k) ?_
 rw [show ((0 : Int32).toInt8.toInt32) = (0 : Int32) from by decide]
 refine own_rN X0 q hrt (by simp) d17_8 hlk (by decide) ?_
 show QI (0 : Int32) h0 n0 _ s₁.heap _
 rw [e0]
 exact ⟨rfl, N0, rfl⟩
theorem rm3_4 (l : Launch) (Z : State) (a0 : Array Value) (hw : own_hw a0 Z) (a1 : Addr) (a2 : Addr) (k1 : ClassId) (x0 x1 x2 x3 : Int32) (cs0 : Int32) (h0 : Heap) (n0 : Nat) (Z0 : n0 ≤ h0.size) (E1 : Exa Z h0 a1 "java/lang/String") (FV : F'1 Z h0 a1 .null) (FC : F'0 Z h0 a1 v'0) (VA : Arv Z h0 a2 k1 .char (4 : Int32) [(.int x0), (.int x1), (.int x2), (.int x3)] v'0) (g1 : n0 ≤ a1) (n12 : a1 ≠ a2) (O0 : Old Z n0 h0) (SC_ : own_SC Z cs0) (hc0 : own_c8 x0) (hc1 : own_c8 x1) (hc2 : own_c8 x2) (hc3 : own_c8 x3) :
  own_M l Z [] own_y7 b'3 6 none ⟨2, 1, 4, 35⟩ #[(.ref a1), (.ref a2), v'0, v'4, .null] h0 (QI4 Z a1 x0 x1 x2 x3 h0 n0) := by
 obtain ⟨SCS, hcs⟩ := SC_
 refine own_start (n0 := n0) hw "java/lang/String" (L := #[.val (.ref a1), .val (.ref a2), .val v'0, .val v'4, .val .null, .unset]) pn_3 (fun {p e s m below meth c s₁} q hx W hml hZ hown hnm hlk hrt X0 e0 N0 => ?_)
 have kp0 := Keep.refl h0 [a1]
 refine own_aln X0 q d3_0 rfl rfl ?_
 refine own_let ?_; intro g189_
 obtain ⟨T190, X190, e190, st190⟩ := initO X0 hx hZ hown (W 16 rfl) (W 17 rfl) (W 18 rfl) e0 (g := g189_) rfl (by rw [hml]; rfl) rfl (q.d d3_1) (by decide) (W := 0) (by show 2 * 0 + _ ≤ _; exact Nat.le_of_eq rfl) (by decide)
 refine own_stp 4 st190 (own_iln X190 q d3_4 rfl (own_zy X190 q d3_5 (((if0 _ _).trans (feq ((by decide) : ¬ ((4 : Int32) = (0 : Int32)))).2)) ?_))
 refine own_gS X190 q hZ e190 hown (W 46 rfl) (SCS.ext O0.2) d3_27 fun T191 X191 e191 => ?_
 refine own_zn X191 q d3_30 (((if0 _ _).trans (feq hcs).1)) (own_aln X191 q d3_33 rfl rfl (own_iln X191 q d3_34 rfl (own_iln X191 q d3_35 rfl ?_)))
 refine own_cSh X191 q hZ e191 hown hml (W 71 rfl) (W 72 rfl) (W 73 rfl) (W 74 rfl) (rm15_4 l Z a0 hw a2 k1 x0 x1 x2 x3 h0 n0 Z0 VA hc0 hc1 hc2 hc3) d3_36 [(.ref a2), v'0, v'4] [] own_pd1 rfl rfl 0 (Nat.le_refl _) (by decide) (fun v192 T192 L192 h192 e192' X192 hQ192 => ?_)
 obtain ⟨b192, k192, rfl, N192q, E192, lo192, V192⟩ := hQ192
 have N192 := Fr.app N0 N192q
 have zs193 := Nat.le_trans Z0 E192.1
 have od193 := O0.ext E192
 have kp193 := kp0.ext E192
 have g_b192 : n0 ≤ b192 := Nat.le_trans Z0 lo192
 have sz_b192 : h0.size ≤ b192 := Nat.le_trans kp0.1 lo192
 refine own_nv (own_as X192 q d3_39 rfl (l' := #[.val (.ref a1), .val (.ref a2), .val v'0, .val v'4, .val .null, .val (.ref b192)]) rfl (own_aln X192 q d3_41 rfl rfl (own_al X192 q d3_42 rfl rfl (own_iln X192 q d3_44 rfl ?_))))
 refine own_cS X192 q hZ e192' hown hml (W 78 rfl) (W 79 rfl) (W 73 rfl) (W 80 rfl) (rm17_4 l Z a0 hw b192 k192 _ h192 n0 zs193 V192) d3_45 [(.ref b192), v'4] [(.ref a1)] own_pd2 rfl rfl 1 (Nat.le_refl _) (by decide) (fun v194 T194 L194 X194 hQ194 => ?_)
 obtain ⟨rfl, N194q, e194⟩ := hQ194
 have N194 := Fr.app N192 N194q
 refine own_nv ?_
 refine own_let ?_; intro g195_
 obtain ⟨T196, h196, X196, e196, W196, st196⟩ := putFN X194 hx hZ hown (W 26 rfl) Via.refl e194 (FC.ext E192) (E1.ext E192) (Or.inr ⟨(W 22 rfl), rfl, hnm⟩) (W 6 rfl) (ty := .byte) (v' := v'0) (by decide) rfl rfl (g := g195_) rfl rfl (q.d d3_48)
 have zs197 := Nat.le_trans zs193 (Keep.of_wr W196).1
 have od197 := od193.wr W196 g1
 have kp197 := kp193.wr W196 (own_i0)
 have Fw196 := ((FC.ext E192)).same W196
 have N196 := Fr.snoc X196 N194 g1
 refine own_stp 51 st196 (own_aln X196 q d3_51 rfl rfl (own_al X196 q d3_52 rfl rfl ?_))
 refine own_let ?_; intro g198_
 obtain ⟨T199, h199, X199, e199, W199, st199⟩ := putF X196 hx hZ hown (host := "") (Or.inl (W 25 rfl)) Via.refl e196 ((FV.ext E192).other W196 (Or.inr (slot_ne (Or.inr (W 21 rfl)) (Or.inr (W 22 rfl)) (by decide) (t := (.array .byte)) (t' := .byte) (by decide) (by decide)))) ((E1.ext E192).wr W196) (Or.inr ⟨(W 21 rfl), rfl, hnm⟩) (W 6 rfl) (ty := (.array .byte)) (by decide) rfl rfl (g := g198_) rfl rfl (q.d d3_54)
 have zs200 := Nat.le_trans zs197 (Keep.of_wr W199).1
 have od200 := od197.wr W199 g1
 have kp200 := kp197.wr W199 (own_i0)
 have Fw199 := (((FV.ext E192).other W196 (Or.inr (slot_ne (Or.inr (W 21 rfl)) (Or.inr (W 22 rfl)) (by decide) (t := (.array .byte)) (t' := .byte) (by decide) (by decide))))).same W199
 have N199 := Fr.snoc X199 N196 g1
 refine own_stp 57 st199 ?_
 refine own_rV X199 q hrt d3_57 hlk (by decide) ?_
 show QI4 Z a1 x0 x1 x2 x3 h0 n0 _ T199.heap _
 rw [e199]
 exact ⟨_, _, rfl, N199, kp200, Fw199, (Fw196.other W199 (Or.inr (slot_ne (Or.inr (W 22 rfl)) (Or.inr (W 21 rfl)) (by decide) (t := .byte) (t' := (.array .byte)) (by decide) (by decide)))), ((V192.other W196 (Ne.symm (own_ne (E1).lt lo192))).other W199 (Ne.symm (own_ne (E1).lt lo192)))⟩
theorem rm2_4 (l : Launch) (Z : State) (a0 : Array Value) (hw : own_hw a0 Z) (a1 : Addr) (a2 : Addr) (k1 : ClassId) (x0 x1 x2 x3 : Int32) (cs0 : Int32) (h0 : Heap) (n0 : Nat) (Z0 : n0 ≤ h0.size) (E1 : Exa Z h0 a1 "java/lang/String") (FV : F'1 Z h0 a1 .null) (FC : F'0 Z h0 a1 v'0) (VA : Arv Z h0 a2 k1 .char (4 : Int32) [(.int x0), (.int x1), (.int x2), (.int x3)] v'0) (g1 : n0 ≤ a1) (n12 : a1 ≠ a2) (O0 : Old Z n0 h0) (SC_ : own_SC Z cs0) (hc0 : own_c8 x0) (hc1 : own_c8 x1) (hc2 : own_c8 x2) (hc3 : own_c8 x3) :
  own_M l Z [] own_y8 b'2 2 none ⟨3, 1, 4, 52⟩ #[(.ref a1), (.ref a2)] h0 (QI4 Z a1 x0 x1 x2 x3 h0 n0) := by
 obtain ⟨SCS, hcs⟩ := SC_
 refine own_start (n0 := n0) hw "java/lang/String" (L := #[.val (.ref a1), .val (.ref a2)]) pn_2 (fun {p e s m below meth c s₁} q hx W hml hZ hown hnm hlk hrt X0 e0 N0 => ?_)
 have kp0 := Keep.refl h0 [a1]
 refine own_aln X0 q d2_0 rfl rfl (own_aln X0 q d2_1 rfl rfl (own_k X0 q d2_2 (own_aln X0 q d2_3 rfl rfl (own_alen (n := (4 : Int32)) X0 q hZ e0 VA d2_4 (own_nl X0 q d2_5 ?_)))))
 refine own_cIh (a := a1) X0 q hZ e0 hown hml (W 12 rfl) (W 13 rfl) (W 7 rfl) (W 15 rfl) (rm3_4 l Z a0 hw a1 a2 k1 x0 x1 x2 x3 cs0 h0 n0 Z0 E1 FV FC VA g1 n12 O0 ⟨SCS, hcs⟩ hc0 hc1 hc2 hc3) d2_6 [(.ref a2), v'0, v'4, .null] [] own_pd3 rfl rfl 0 (Nat.le_refl _) rfl (by decide) (fun v203 T203 L203 h203 e203' X203 hQ203 => ?_)
 obtain ⟨t203, k203, rfl, N203q, K203, Fv203, Fc203, V203⟩ := hQ203
 have N203 := Fr.app N0 N203q
 have zs204 := Nat.le_trans Z0 K203.1
 have od204 := O0.keep K203 (allS g1 all0)
 have kp204 := kp0.trans K203 (allS (own_i0) all0)
 refine own_nn ?_
 refine own_rV X203 q hrt d2_9 hlk (by decide) ?_
 show QI4 Z a1 x0 x1 x2 x3 h0 n0 _ T203.heap _
 rw [e203']
 exact ⟨_, _, rfl, N203, kp204, Fv203, Fc203, V203⟩
theorem d12_0 : own_D b'12 0 (.iload_n 0) 1 1 := by decide +kernel
theorem d12_1 : own_DZ b'12 1 .lt 15 4 := by decide +kernel
theorem d12_4 : own_D b'12 4 (.iload_n 0) 1 5 := by decide +kernel
theorem d12_5 : own_DK b'12 5 255 8 := by decide +kernel
theorem d12_8 : own_DJ b'12 8 .gt 15 11 := by decide +kernel
theorem d12_11 : own_DK b'12 11 1 12 := by decide +kernel
theorem d12_12 : own_DG b'12 12 16 := by decide +kernel
theorem d12_15 : own_DK b'12 15 0 16 := by decide +kernel
theorem d12_16 : own_D b'12 16 .ireturn 1 17 := by decide +kernel
theorem pn_12 : plainFor (⟨"java/lang/StringLatin1", "canEncode", "(I)Z"⟩ : MethodName) = true := plainFor_of_name (by first | (simp [plainName, overriddenIn]; done) | decide +kernel)
theorem rm12 (l : Launch) (Z : State) (a0 : Array Value) (hw : own_hw a0 Z) (p1 : Int32)  (h0 : Heap) (n0 : Nat) (Z0 : n0 ≤ h0.size) (h0_ : ¬ p1 < (0 : Int32)) (h1_ : ¬ (255 : Int32) < p1) :
  own_M l Z [] own_y9 b'12 1 (some .boolean) ⟨0, 0, 0, 0⟩ #[(.int p1)] h0 (QI (1 : Int32) h0 n0) := by
 refine own_start (n0 := n0) hw "java/lang/StringLatin1" (L := #[.val (.int p1)]) pn_12 (fun {p e s m below meth c s₁} q hx W hml hZ hown hnm hlk hrt X0 e0 N0 => ?_)
 refine own_iln X0 q d12_0 rfl (own_zn X0 q d12_1 (((if0 _ _).trans (flt (h0_ : ¬ (p1 < (0 : Int32)))).1)) (own_iln X0 q d12_4 rfl (own_k X0 q d12_5 (own_cn X0 q d12_8 ((flt (h1_ : ¬ ((255 : Int32) < p1))).2.2.1) (own_k X0 q d12_11 (own_gt X0 q d12_12 ?_))))))
 refine own_rN X0 q hrt (by simp) d12_16 hlk (by decide) ?_
 show QI (1 : Int32) h0 n0 _ s₁.heap _
 rw [e0]
 exact ⟨rfl, N0, rfl⟩
theorem d8_0 : own_D b'8 0 (.getstatic 38) 3 3 := by decide +kernel
theorem d8_3 : own_DZ b'8 3 .eq 17 6 := by decide +kernel
theorem d8_6 : own_D b'8 6 (.aload_n 0) 1 7 := by decide +kernel
theorem d8_7 : own_D b'8 7 (.getfield 15) 3 10 := by decide +kernel
theorem d8_10 : own_DZ b'8 10 .ne 17 13 := by decide +kernel
theorem d8_13 : own_DK b'8 13 1 14 := by decide +kernel
theorem d8_14 : own_DG b'8 14 18 := by decide +kernel
theorem d8_17 : own_DK b'8 17 0 18 := by decide +kernel
theorem d8_18 : own_D b'8 18 .ireturn 1 19 := by decide +kernel
theorem pn_8 : plainFor (⟨"java/lang/String", "isLatin1", "()Z"⟩ : MethodName) = true := plainFor_of_name (by first | (simp [plainName, overriddenIn]; done) | decide +kernel)
theorem rm8 (l : Launch) (Z : State) (a0 : Array Value) (hw : own_hw a0 Z) (a1 : Addr) (cs0 : Int32) (h0 : Heap) (n0 : Nat) (Z0 : n0 ≤ h0.size) (O0 : Old Z n0 h0) (SC_ : own_SC Z cs0) (FC : F'0 Z h0 a1 v'0) :
  own_M l Z [] own_y10 b'8 1 (some .boolean) ⟨0, 0, 0, 0⟩ #[(.ref a1)] h0 (QI (1 : Int32) h0 n0) := by
 obtain ⟨SCS, hcs⟩ := SC_
 refine own_start (n0 := n0) hw "java/lang/String" (L := #[.val (.ref a1)]) pn_8 (fun {p e s m below meth c s₁} q hx W hml hZ hown hnm hlk hrt X0 e0 N0 => ?_)
 refine own_gS X0 q hZ e0 hown (W 46 rfl) (SCS.ext O0.2) d8_0 fun T207 X207 e207 => ?_
 refine own_zn X207 q d8_3 (((if0 _ _).trans (feq hcs).1)) (own_aln X207 q d8_6 rfl rfl ?_)
 refine own_gF X207 q hZ e207 hown (W 26 rfl) FC d8_7 fun T208 X208 e208 => ?_
 refine own_zn X208 q d8_10 (((if0 _ _).trans (teq (rfl : (0 : Int32) = (0 : Int32))).2)) (own_k X208 q d8_13 (own_gt X208 q d8_14 ?_))
 refine own_rN X208 q hrt (by simp) d8_18 hlk (by decide) ?_
 show QI (1 : Int32) h0 n0 _ T208.heap _
 rw [e208]
 exact ⟨rfl, N0, rfl⟩
theorem d10_0 : own_D b'10 0 (.getstatic 38) 3 3 := by decide +kernel
theorem d10_3 : own_DZ b'10 3 .eq 13 6 := by decide +kernel
theorem d10_6 : own_D b'10 6 (.aload_n 0) 1 7 := by decide +kernel
theorem d10_7 : own_D b'10 7 (.getfield 15) 3 10 := by decide +kernel
theorem d10_10 : own_DG b'10 10 14 := by decide +kernel
theorem d10_13 : own_DK b'10 13 1 14 := by decide +kernel
theorem d10_14 : own_D b'10 14 .ireturn 1 15 := by decide +kernel
theorem pn_10 : plainFor (⟨"java/lang/String", "coder", "()B"⟩ : MethodName) = true := plainFor_of_name (by first | (simp [plainName, overriddenIn]; done) | decide +kernel)
theorem rm10 (l : Launch) (Z : State) (a0 : Array Value) (hw : own_hw a0 Z) (a1 : Addr) (cs0 : Int32) (h0 : Heap) (n0 : Nat) (Z0 : n0 ≤ h0.size) (O0 : Old Z n0 h0) (SC_ : own_SC Z cs0) (FC : F'0 Z h0 a1 v'0) :
  own_M l Z [] own_y11 b'10 1 (some .byte) ⟨0, 0, 0, 0⟩ #[(.ref a1)] h0 (QI (0 : Int32) h0 n0) := by
 obtain ⟨SCS, hcs⟩ := SC_
 refine own_start (n0 := n0) hw "java/lang/String" (L := #[.val (.ref a1)]) pn_10 (fun {p e s m below meth c s₁} q hx W hml hZ hown hnm hlk hrt X0 e0 N0 => ?_)
 refine own_gS X0 q hZ e0 hown (W 46 rfl) (SCS.ext O0.2) d10_0 fun T211 X211 e211 => ?_
 refine own_zn X211 q d10_3 (((if0 _ _).trans (feq hcs).1)) (own_aln X211 q d10_6 rfl rfl ?_)
 refine own_gF X211 q hZ e211 hown (W 26 rfl) FC d10_7 fun T212 X212 e212 => ?_
 refine own_gt X212 q d10_10 ?_
 refine own_rN X212 q hrt (by simp) d10_14 hlk (by decide) ?_
 show QI (0 : Int32) h0 n0 _ T212.heap _
 rw [e212]
 exact ⟨rfl, N0, rfl⟩
theorem d9_0 : own_D b'9 0 (.aload_n 0) 1 1 := by decide +kernel
theorem d9_1 : own_D b'9 1 (.getfield 9) 3 4 := by decide +kernel
theorem d9_4 : own_D b'9 4 .arraylength 1 5 := by decide +kernel
theorem d9_5 : own_D b'9 5 (.aload_n 0) 1 6 := by decide +kernel
theorem d9_6 : own_D b'9 6 (.invokevirtual 335) 3 9 := by decide +kernel
theorem d9_9 : own_D b'9 9 .ishr 1 10 := by decide +kernel
theorem d9_10 : own_D b'9 10 .ireturn 1 11 := by decide +kernel
theorem pn_9 : plainFor (⟨"java/lang/String", "length", "()I"⟩ : MethodName) = true := plainFor_of_name (by first | (simp [plainName, overriddenIn]; done) | decide +kernel)
theorem rm9_0 (l : Launch) (Z : State) (a0 : Array Value) (hw : own_hw a0 Z) (a1 : Addr) (t : Addr) (k1 : ClassId) (cs0 : Int32) (h0 : Heap) (n0 : Nat) (Z0 : n0 ≤ h0.size) (EX : Exa Z h0 a1 "java/lang/String") (FV : F'1 Z h0 a1 (.ref t)) (VT : Arv Z h0 t k1 .byte (0 : Int32) [] v'0) (O0 : Old Z n0 h0) (SC_ : own_SC Z cs0) (FC : F'0 Z h0 a1 v'0) :
  own_M l Z [] own_y12 b'9 1 (some .int) ⟨1, 0, 0, 13⟩ #[(.ref a1)] h0 (QI (0 : Int32) h0 n0) := by
 obtain ⟨SCS, hcs⟩ := SC_
 refine own_start (n0 := n0) hw "java/lang/String" (L := #[.val (.ref a1)]) pn_9 (fun {p e s m below meth c s₁} q hx W hml hZ hown hnm hlk hrt X0 e0 N0 => ?_)
 refine own_aln X0 q d9_0 rfl rfl ?_
 refine own_gF X0 q hZ e0 hown (W 25 rfl) FV d9_1 fun T215 X215 e215 => ?_
 refine own_alen (n := (0 : Int32)) X215 q hZ e215 VT d9_4 (own_aln X215 q d9_5 rfl rfl ?_)
 refine own_cV X215 q hZ e215 hown hml (W 52 rfl) (W 53 rfl) (W 55 rfl) (W 54 rfl) (W 7 rfl) (W 56 rfl) rfl EX (rm10 l Z a0 hw a1 cs0 h0 n0 Z0 O0 ⟨SCS, hcs⟩ FC) d9_6 [] [v'0] own_pd4 rfl rfl 1 (Nat.le_refl _) (by decide) (fun v216 T216 L216 X216 hQ216 => ?_)
 obtain ⟨rfl, N216q, e216⟩ := hQ216
 have N216 := Fr.app N0 N216q
 refine own_nv (own_stp 10 (fun _ k => XS.ishr X216.here hx rfl (q.d d9_9) rfl k) ?_)
 rw [show ((0 : Int32) >>> ((0 : Int32) &&& 31)) = (0 : Int32) from by decide]
 refine own_rI X216 q hrt d9_10 hlk (by decide) ?_
 show QI (0 : Int32) h0 n0 _ T216.heap _
 rw [e216]
 exact ⟨rfl, N216, rfl⟩
theorem d11_0 : own_D b'11 0 (.iload_n 1) 1 1 := by decide +kernel
theorem d11_1 : own_D b'11 1 (.invokestatic 88) 3 4 := by decide +kernel
theorem d11_4 : own_DZ b'11 4 .ne 9 7 := by decide +kernel
theorem d11_7 : own_DK b'11 7 (-1) 8 := by decide +kernel
theorem d11_8 : own_D b'11 8 .ireturn 1 9 := by decide +kernel
theorem d11_9 : own_D b'11 9 (.iload_n 2) 1 10 := by decide +kernel
theorem d11_10 : own_DK b'11 10 0 11 := by decide +kernel
theorem d11_11 : own_D b'11 11 (.invokestatic 92) 3 14 := by decide +kernel
theorem d11_14 : own_D b'11 14 (.istore_n 2) 1 15 := by decide +kernel
theorem d11_15 : own_D b'11 15 (.iload_n 3) 1 16 := by decide +kernel
theorem d11_16 : own_D b'11 16 (.aload_n 0) 1 17 := by decide +kernel
theorem d11_17 : own_D b'11 17 .arraylength 1 18 := by decide +kernel
theorem d11_18 : own_D b'11 18 (.invokestatic 38) 3 21 := by decide +kernel
theorem d11_21 : own_D b'11 21 (.istore_n 3) 1 22 := by decide +kernel
theorem d11_22 : own_D b'11 22 (.iload_n 2) 1 23 := by decide +kernel
theorem d11_23 : own_D b'11 23 (.iload_n 3) 1 24 := by decide +kernel
theorem d11_24 : own_DJ b'11 24 .lt 29 27 := by decide +kernel
theorem d11_27 : own_DK b'11 27 (-1) 28 := by decide +kernel
theorem d11_28 : own_D b'11 28 .ireturn 1 29 := by decide +kernel
theorem d11_29 : own_D b'11 29 (.aload_n 0) 1 30 := by decide +kernel
theorem d11_30 : own_D b'11 30 (.iload_n 1) 1 31 := by decide +kernel
theorem d11_31 : own_D b'11 31 (.iload_n 2) 1 32 := by decide +kernel
theorem d11_32 : own_D b'11 32 (.iload_n 3) 1 33 := by decide +kernel
theorem d11_33 : own_D b'11 33 (.invokestatic 95) 3 36 := by decide +kernel
theorem d11_36 : own_D b'11 36 .ireturn 1 37 := by decide +kernel
theorem pn_11 : plainFor (⟨"java/lang/StringLatin1", "indexOf", "([BIII)I"⟩ : MethodName) = true := plainFor_of_name (by first | (simp [plainName, overriddenIn]; done) | decide +kernel)
theorem rm11_0 (l : Launch) (Z : State) (a0 : Array Value) (hw : own_hw a0 Z) (a1 : Addr) (p2 : Int32) (k1 : ClassId) (h0 : Heap) (n0 : Nat) (Z0 : n0 ≤ h0.size) (VT : Arv Z h0 a1 k1 .byte (0 : Int32) [] v'0) (k0_ : ¬ p2 < (0 : Int32)) (k1_ : ¬ (255 : Int32) < p2) (kb_ : p2.toInt8.toInt32 = p2) :
  own_M l Z [] own_y13 b'11 4 (some .int) ⟨1, 0, 0, 13⟩ #[(.ref a1), (.int p2), v'0, v'0] h0 (QIX (p2 ∈ ([] : List Int32)) h0 n0) := by
 refine own_start (n0 := n0) hw "java/lang/StringLatin1" (L := #[.val (.ref a1), .val (.int p2), .val v'0, .val v'0]) pn_11 (fun {p e s m below meth c s₁} q hx W hml hZ hown hnm hlk hrt X0 e0 N0 => ?_)
 refine own_iln X0 q d11_0 rfl ?_
 refine own_cS X0 q hZ e0 hown hml (W 61 rfl) (W 62 rfl) (W 59 rfl) (W 63 rfl) (rm12 l Z a0 hw p2 h0 n0 Z0 k0_ k1_) d11_1 [(.int p2)] [] own_pd5 rfl rfl 0 (Nat.le_refl _) (by decide) (fun v220 T220 L220 X220 hQ220 => ?_)
 obtain ⟨rfl, N220q, e220⟩ := hQ220
 have N220 := Fr.app N0 N220q
 refine own_nv (own_zy X220 q d11_4 (((if0 _ _).trans (feq ((by decide) : ¬ ((1 : Int32) = (0 : Int32)))).2)) (own_iln X220 q d11_9 rfl (own_k X220 q d11_10 ?_)))
 refine own_cS X220 q hZ e220 hown hml (W 64 rfl) (W 65 rfl) (W 66 rfl) (W 67 rfl) (rm13 l Z a0 hw (0 : Int32) (0 : Int32) (0 : Int32) h0 n0 Z0 (by decide)) d11_11 [v'0, v'0] [] own_pd6 rfl rfl 0 (Nat.le_refl _) (by decide) (fun v221 T221 L221 X221 hQ221 => ?_)
 obtain ⟨rfl, N221q, e221⟩ := hQ221
 have N221 := Fr.app N220 N221q
 refine own_nv (own_isn X221 q d11_14 (l' := #[.val (.ref a1), .val (.int p2), .val v'0, .val v'0]) rfl (own_iln X221 q d11_15 rfl (own_aln X221 q d11_16 rfl rfl (own_alen (n := (0 : Int32)) X221 q hZ e221 VT d11_17 ?_))))
 refine own_cS X221 q hZ e221 hown hml (W 68 rfl) (W 69 rfl) (W 66 rfl) (W 70 rfl) (rm14 l Z a0 hw (0 : Int32) (0 : Int32) (0 : Int32) h0 n0 Z0 (by decide)) d11_18 [v'0, v'0] [] own_pd6 rfl rfl 0 (Nat.le_refl _) (by decide) (fun v222 T222 L222 X222 hQ222 => ?_)
 obtain ⟨rfl, N222q, e222⟩ := hQ222
 have N222 := Fr.app N221 N222q
 refine own_nv (own_isn X222 q d11_21 (l' := #[.val (.ref a1), .val (.int p2), .val v'0, .val v'0]) rfl (own_iln X222 q d11_22 rfl (own_iln X222 q d11_23 rfl (own_cn X222 q d11_24 ((flt (Int32.lt_irrefl : ¬ ((0 : Int32) < (0 : Int32)))).1) (own_k X222 q d11_27 ?_)))))
 refine own_rI X222 q hrt d11_28 hlk (by decide) ?_
 show QIX (p2 ∈ ([] : List Int32)) h0 n0 _ T222.heap _
 rw [e222]
 exact ⟨_, rfl, N222, rfl, Or.inr ⟨by decide, by simp⟩⟩
theorem d7_0 : own_D b'7 0 (.aload_n 0) 1 1 := by decide +kernel
theorem d7_1 : own_D b'7 1 (.invokevirtual 492) 3 4 := by decide +kernel
theorem d7_4 : own_DZ b'7 4 .eq 23 7 := by decide +kernel
theorem d7_7 : own_D b'7 7 (.aload_n 0) 1 8 := by decide +kernel
theorem d7_8 : own_D b'7 8 (.getfield 9) 3 11 := by decide +kernel
theorem d7_11 : own_D b'7 11 (.iload_n 1) 1 12 := by decide +kernel
theorem d7_12 : own_D b'7 12 (.iload_n 2) 1 13 := by decide +kernel
theorem d7_13 : own_D b'7 13 (.aload_n 0) 1 14 := by decide +kernel
theorem d7_14 : own_D b'7 14 (.invokevirtual 505) 3 17 := by decide +kernel
theorem d7_17 : own_D b'7 17 (.invokestatic 637) 3 20 := by decide +kernel
theorem d7_20 : own_DG b'7 20 36 := by decide +kernel
theorem d7_23 : own_D b'7 23 (.aload_n 0) 1 24 := by decide +kernel
theorem d7_24 : own_D b'7 24 (.getfield 9) 3 27 := by decide +kernel
theorem d7_27 : own_D b'7 27 (.iload_n 1) 1 28 := by decide +kernel
theorem d7_28 : own_D b'7 28 (.iload_n 2) 1 29 := by decide +kernel
theorem d7_29 : own_D b'7 29 (.aload_n 0) 1 30 := by decide +kernel
theorem d7_30 : own_D b'7 30 (.invokevirtual 505) 3 33 := by decide +kernel
theorem d7_33 : own_D b'7 33 (.invokestatic 640) 3 36 := by decide +kernel
theorem d7_36 : own_D b'7 36 .ireturn 1 37 := by decide +kernel
theorem pn_7 : plainFor (⟨"java/lang/String", "indexOf", "(II)I"⟩ : MethodName) = true := plainFor_of_name (by first | (simp [plainName, overriddenIn]; done) | decide +kernel)
theorem rm7_0 (l : Launch) (Z : State) (a0 : Array Value) (hw : own_hw a0 Z) (a1 : Addr) (p2 : Int32) (t : Addr) (k1 : ClassId) (cs0 : Int32) (h0 : Heap) (n0 : Nat) (Z0 : n0 ≤ h0.size) (EX : Exa Z h0 a1 "java/lang/String") (FV : F'1 Z h0 a1 (.ref t)) (VT : Arv Z h0 t k1 .byte (0 : Int32) [] v'0) (O0 : Old Z n0 h0) (SC_ : own_SC Z cs0) (FC : F'0 Z h0 a1 v'0) (k0_ : ¬ p2 < (0 : Int32)) (k1_ : ¬ (255 : Int32) < p2) (kb_ : p2.toInt8.toInt32 = p2) :
  own_M l Z [] own_y14 b'7 3 (some .int) ⟨2, 0, 0, 28⟩ #[(.ref a1), (.int p2), v'0] h0 (QIX (p2 ∈ ([] : List Int32)) h0 n0) := by
 obtain ⟨SCS, hcs⟩ := SC_
 refine own_start (n0 := n0) hw "java/lang/String" (L := #[.val (.ref a1), .val (.int p2), .val v'0]) pn_7 (fun {p e s m below meth c s₁} q hx W hml hZ hown hnm hlk hrt X0 e0 N0 => ?_)
 refine own_aln X0 q d7_0 rfl rfl ?_
 refine own_cV X0 q hZ e0 hown hml (W 41 rfl) (W 42 rfl) (W 44 rfl) (W 43 rfl) (W 7 rfl) (W 45 rfl) rfl EX (rm8 l Z a0 hw a1 cs0 h0 n0 Z0 O0 ⟨SCS, hcs⟩ FC) d7_1 [] [] own_pd7 rfl rfl 0 (Nat.le_refl _) (by decide) (fun v227 T227 L227 X227 hQ227 => ?_)
 obtain ⟨rfl, N227q, e227⟩ := hQ227
 have N227 := Fr.app N0 N227q
 refine own_nv (own_zn X227 q d7_4 (((if0 _ _).trans (feq ((by decide) : ¬ ((1 : Int32) = (0 : Int32)))).1)) (own_aln X227 q d7_7 rfl rfl ?_))
 refine own_gF X227 q hZ e227 hown (W 25 rfl) FV d7_8 fun T228 X228 e228 => ?_
 refine own_iln X228 q d7_11 rfl (own_iln X228 q d7_12 rfl (own_aln X228 q d7_13 rfl rfl ?_))
 refine own_cV X228 q hZ e228 hown hml (W 47 rfl) (W 48 rfl) (W 50 rfl) (W 49 rfl) (W 7 rfl) (W 51 rfl) rfl EX (rm9_0 l Z a0 hw a1 t k1  cs0 h0 n0 Z0 EX FV VT O0 ⟨SCS, hcs⟩ FC) d7_14 [] [v'0, (.int p2), (.ref t)] own_pd8 rfl rfl 3 (Nat.le_refl _) (by decide) (fun v229 T229 L229 X229 hQ229 => ?_)
 obtain ⟨rfl, N229q, e229⟩ := hQ229
 have N229 := Fr.app N227 N229q
 refine own_nv ?_
 refine own_cS X229 q hZ e229 hown hml (W 57 rfl) (W 58 rfl) (W 59 rfl) (W 60 rfl) (rm11_0 l Z a0 hw t p2 k1  h0 n0 Z0 VT k0_ k1_ kb_) d7_17 [(.ref t), (.int p2), v'0, v'0] [] own_pd9 rfl rfl 0 (Nat.le_refl _) (by decide) (fun v230 T230 L230 X230 hQ230 => ?_)
 obtain ⟨z230, rfl, N230q, e230, ix230⟩ := hQ230
 have N230 := Fr.app N229 N230q
 refine own_nv (own_gt X230 q d7_20 ?_)
 refine own_rI X230 q hrt d7_36 hlk (by decide) ?_
 show QIX (p2 ∈ ([] : List Int32)) h0 n0 _ T230.heap _
 rw [e230]
 exact ⟨_, rfl, N230, rfl, ix230⟩
theorem d6_0 : own_D b'6 0 (.aload_n 0) 1 1 := by decide +kernel
theorem d6_1 : own_D b'6 1 (.iload_n 1) 1 2 := by decide +kernel
theorem d6_2 : own_DK b'6 2 0 3 := by decide +kernel
theorem d6_3 : own_D b'6 3 (.invokevirtual 633) 3 6 := by decide +kernel
theorem d6_6 : own_D b'6 6 .ireturn 1 7 := by decide +kernel
theorem pn_6 : plainFor (⟨"java/lang/String", "indexOf", "(I)I"⟩ : MethodName) = true := plainFor_of_name (by first | (simp [plainName, overriddenIn]; done) | decide +kernel)
theorem rm6_0 (l : Launch) (Z : State) (a0 : Array Value) (hw : own_hw a0 Z) (a1 : Addr) (p2 : Int32) (t : Addr) (k1 : ClassId) (cs0 : Int32) (h0 : Heap) (n0 : Nat) (Z0 : n0 ≤ h0.size) (EX : Exa Z h0 a1 "java/lang/String") (FV : F'1 Z h0 a1 (.ref t)) (VT : Arv Z h0 t k1 .byte (0 : Int32) [] v'0) (O0 : Old Z n0 h0) (SC_ : own_SC Z cs0) (FC : F'0 Z h0 a1 v'0) (k0_ : ¬ p2 < (0 : Int32)) (k1_ : ¬ (255 : Int32) < p2) (kb_ : p2.toInt8.toInt32 = p2) :
  own_M l Z [] own_y15 b'6 2 (some .int) ⟨3, 0, 0, 42⟩ #[(.ref a1), (.int p2)] h0 (QIX (p2 ∈ ([] : List Int32)) h0 n0) := by
 obtain ⟨SCS, hcs⟩ := SC_
 refine own_start (n0 := n0) hw "java/lang/String" (L := #[.val (.ref a1), .val (.int p2)]) pn_6 (fun {p e s m below meth c s₁} q hx W hml hZ hown hnm hlk hrt X0 e0 N0 => ?_)
 refine own_aln X0 q d6_0 rfl rfl (own_iln X0 q d6_1 rfl (own_k X0 q d6_2 ?_))
 refine own_cV X0 q hZ e0 hown hml (W 36 rfl) (W 37 rfl) (W 39 rfl) (W 38 rfl) (W 7 rfl) (W 40 rfl) rfl EX (rm7_0 l Z a0 hw a1 p2 t k1  cs0 h0 n0 Z0 EX FV VT O0 ⟨SCS, hcs⟩ FC k0_ k1_ kb_) d6_3 [(.int p2), v'0] [] own_pd6 rfl rfl 0 (Nat.le_refl _) (by decide) (fun v232 T232 L232 X232 hQ232 => ?_)
 obtain ⟨z232, rfl, N232q, e232, ix232⟩ := hQ232
 have N232 := Fr.app N0 N232q
 refine own_nv ?_
 refine own_rI X232 q hrt d6_6 hlk (by decide) ?_
 show QIX (p2 ∈ ([] : List Int32)) h0 n0 _ T232.heap _
 rw [e232]
 exact ⟨_, rfl, N232, rfl, ix232⟩
theorem d5_0 : own_D b'5 0 (.aload_n 0) 1 1 := by decide +kernel
theorem d5_1 : own_DK b'5 1 42 3 := by decide +kernel
theorem d5_3 : own_D b'5 3 (.invokevirtual 70) 3 6 := by decide +kernel
theorem d5_6 : own_DZ b'5 6 .ge 18 9 := by decide +kernel
theorem d5_9 : own_D b'5 9 (.aload_n 0) 1 10 := by decide +kernel
theorem d5_10 : own_DK b'5 10 63 12 := by decide +kernel
theorem d5_12 : own_D b'5 12 (.invokevirtual 70) 3 15 := by decide +kernel
theorem d5_15 : own_DZ b'5 15 .lt 22 18 := by decide +kernel
theorem d5_18 : own_DK b'5 18 1 19 := by decide +kernel
theorem d5_19 : own_DG b'5 19 23 := by decide +kernel
theorem d5_22 : own_DK b'5 22 0 23 := by decide +kernel
theorem d5_23 : own_D b'5 23 .ireturn 1 24 := by decide +kernel
theorem pn_5 : plainFor (⟨"com/example/endpoint/endpoint/maven/PathPattern", "isPattern", "(Ljava/lang/String;)Z"⟩ : MethodName) = true := plainFor_of_name (by first | (simp [plainName, overriddenIn]; done) | decide +kernel)
theorem rm5_0 (l : Launch) (Z : State) (a0 : Array Value) (hw : own_hw a0 Z) (a1 : Addr) (t : Addr) (k1 : ClassId) (cs0 : Int32) (h0 : Heap) (n0 : Nat) (Z0 : n0 ≤ h0.size) (EX : Exa Z h0 a1 "java/lang/String") (FV : F'1 Z h0 a1 (.ref t)) (VT : Arv Z h0 t k1 .byte (0 : Int32) [] v'0) (O0 : Old Z n0 h0) (SC_ : own_SC Z cs0) (FC : F'0 Z h0 a1 v'0) :
  own_M l Z [] own_y16 b'5 1 (some .boolean) ⟨4, 0, 0, 55⟩ #[(.ref a1)] h0 (QM ((42 ∈ ([] : List Int32)) ∨ (63 ∈ ([] : List Int32))) h0 n0) := by
 obtain ⟨SCS, hcs⟩ := SC_
 refine own_start (n0 := n0) hw "com/example/endpoint/endpoint/maven/PathPattern" (L := #[.val (.ref a1)]) pn_5 (fun {p e s m below meth c s₁} q hx W hml hZ hown hnm hlk hrt X0 e0 N0 => ?_)
 refine own_aln X0 q d5_0 rfl rfl (own_k X0 q d5_1 ?_)
 refine own_cV X0 q hZ e0 hown hml (W 31 rfl) (W 32 rfl) (W 34 rfl) (W 33 rfl) (W 7 rfl) (W 35 rfl) rfl EX (rm6_0 l Z a0 hw a1 (42 : Int32) t k1  cs0 h0 n0 Z0 EX FV VT O0 ⟨SCS, hcs⟩ FC (by decide) (by decide) (by decide)) d5_3 [(.int (42 : Int32))] [] own_pd10 rfl rfl 0 (Nat.le_refl _) (by decide) (fun v237 T237 L237 X237 hQ237 => ?_)
 obtain ⟨z237, rfl, N237q, e237, ix237⟩ := hQ237
 have N237 := Fr.app N0 N237q
 refine own_nv ?_
 by_cases hc6_238 : z237 < (0 : Int32)
 ·refine own_zn X237 q d5_6 (((if0 _ _).trans (tlt hc6_238).2.1)) (own_aln X237 q d5_9 rfl rfl (own_k X237 q d5_10 ?_))
  refine own_cV X237 q hZ e237 hown hml (W 31 rfl) (W 32 rfl) (W 34 rfl) (W 33 rfl) (W 7 rfl) (W 35 rfl) rfl EX (rm6_0 l Z a0 hw a1 (63 : Int32) t k1  cs0 h0 n0 Z0 EX FV VT O0 ⟨SCS, hcs⟩ FC (by decide) (by decide) (by decide)) d5_12 [(.int (63 : Int32))] [] own_pd10 rfl rfl 0 (Nat.le_refl _) (by decide) (fun v239 T239 L239 X239 hQ239 => ?_)
  obtain ⟨z239, rfl, N239q, e239, ix239⟩ := hQ239
  have N239 := Fr.app N237 N239q
  refine own_nv ?_
  by_cases hc15_240 : z239 < (0 : Int32)
  ·refine own_zy X239 q d5_15 (((if0 _ _).trans (tlt hc15_240).1)) (own_k X239 q d5_22 ?_)
   refine own_rN X239 q hrt (by simp) d5_23 hlk (by decide) ?_
   show QM ((42 ∈ ([] : List Int32)) ∨ (63 ∈ ([] : List Int32))) h0 n0 _ T239.heap _
   rw [e239]
   exact ⟨_, rfl, N239, rfl, Or.inr ⟨rfl, fun q => q.elim (ix237.elim (fun r => absurd hc6_238 r.1) (fun r => r.2)) (ix239.elim (fun r => absurd hc15_240 r.1) (fun r => r.2))⟩⟩
  ·refine own_zn X239 q d5_15 (((if0 _ _).trans (flt hc15_240).1)) (own_k X239 q d5_18 (own_gt X239 q d5_19 ?_))
   refine own_rN X239 q hrt (by simp) d5_23 hlk (by decide) ?_
   show QM ((42 ∈ ([] : List Int32)) ∨ (63 ∈ ([] : List Int32))) h0 n0 _ T239.heap _
   rw [e239]
   exact ⟨_, rfl, N239, rfl, Or.inl ⟨rfl, Or.inr (ix239.elim (fun r => r.2) (fun r => absurd r.1 hc15_240))⟩⟩
 ·refine own_zy X237 q d5_6 (((if0 _ _).trans (flt hc6_238).2.1)) (own_k X237 q d5_18 (own_gt X237 q d5_19 ?_))
  refine own_rN X237 q hrt (by simp) d5_23 hlk (by decide) ?_
  show QM ((42 ∈ ([] : List Int32)) ∨ (63 ∈ ([] : List Int32))) h0 n0 _ T237.heap _
  rw [e237]
  exact ⟨_, rfl, N237, rfl, Or.inl ⟨rfl, Or.inl (ix237.elim (fun r => r.2) (fun r => absurd r.1 hc6_238))⟩⟩
theorem rm9_1 (l : Launch) (Z : State) (a0 : Array Value) (hw : own_hw a0 Z) (a1 : Addr) (t : Addr) (k1 : ClassId) (b0 : Int32) (cs0 : Int32) (h0 : Heap) (n0 : Nat) (Z0 : n0 ≤ h0.size) (EX : Exa Z h0 a1 "java/lang/String") (FV : F'1 Z h0 a1 (.ref t)) (VT : Arv Z h0 t k1 .byte (1 : Int32) [(.int b0)] v'0) (O0 : Old Z n0 h0) (SC_ : own_SC Z cs0) (FC : F'0 Z h0 a1 v'0) :
  own_M l Z [] own_y12 b'9 1 (some .int) ⟨1, 0, 0, 13⟩ #[(.ref a1)] h0 (QI (1 : Int32) h0 n0) := by
 obtain ⟨SCS, hcs⟩ := SC_
 refine own_start (n0 := n0) hw "java/lang/String" (L := #[.val (.ref a1)]) pn_9 (fun {p e s m below meth c s₁} q hx W hml hZ hown hnm hlk hrt X0 e0 N0 => ?_)
 refine own_aln X0 q d9_0 rfl rfl ?_
 refine own_gF X0 q hZ e0 hown (W 25 rfl) FV d9_1 fun T243 X243 e243 => ?_
 refine own_alen (n := (1 : Int32)) X243 q hZ e243 VT d9_4 (own_aln X243 q d9_5 rfl rfl ?_)
 refine own_cV X243 q hZ e243 hown hml (W 52 rfl) (W 53 rfl) (W 55 rfl) (W 54 rfl) (W 7 rfl) (W 56 rfl) rfl EX (rm10 l Z a0 hw a1 cs0 h0 n0 Z0 O0 ⟨SCS, hcs⟩ FC) d9_6 [] [v'1] own_pd4 rfl rfl 1 (Nat.le_refl _) (by decide) (fun v244 T244 L244 X244 hQ244 => ?_)
 obtain ⟨rfl, N244q, e244⟩ := hQ244
 have N244 := Fr.app N0 N244q
 refine own_nv (own_stp 10 (fun _ k => XS.ishr X244.here hx rfl (q.d d9_9) rfl k) ?_)
 rw [show ((1 : Int32) >>> ((0 : Int32) &&& 31)) = (1 : Int32) from by decide]
 refine own_rI X244 q hrt d9_10 hlk (by decide) ?_
 show QI (1 : Int32) h0 n0 _ T244.heap _
 rw [e244]
 exact ⟨rfl, N244, rfl⟩
theorem d19_0 : own_D b'19 0 (.iload_n 1) 1 1 := by decide +kernel
theorem d19_1 : own_D b'19 1 .i2b 1 2 := by decide +kernel
theorem d19_2 : own_D b'19 2 (.istore 4) 2 4 := by decide +kernel
theorem d19_4 : own_D b'19 4 (.iload_n 2) 1 5 := by decide +kernel
theorem d19_5 : own_D b'19 5 (.istore 5) 2 7 := by decide +kernel
theorem d19_7 : own_D b'19 7 (.iload 5) 2 9 := by decide +kernel
theorem d19_9 : own_D b'19 9 (.iload_n 3) 1 10 := by decide +kernel
theorem d19_10 : own_DJ b'19 10 .ge 31 13 := by decide +kernel
theorem d19_13 : own_D b'19 13 (.aload_n 0) 1 14 := by decide +kernel
theorem d19_14 : own_D b'19 14 (.iload 5) 2 16 := by decide +kernel
theorem d19_16 : own_D b'19 16 .baload 1 17 := by decide +kernel
theorem d19_17 : own_D b'19 17 (.iload 4) 2 19 := by decide +kernel
theorem d19_19 : own_DJ b'19 19 .ne 25 22 := by decide +kernel
theorem d19_22 : own_D b'19 22 (.iload 5) 2 24 := by decide +kernel
theorem d19_24 : own_D b'19 24 .ireturn 1 25 := by decide +kernel
theorem d19_25 : own_DI b'19 25 5 1 28 := by decide +kernel
theorem d19_28 : own_DG b'19 28 7 := by decide +kernel
theorem d19_31 : own_DK b'19 31 (-1) 32 := by decide +kernel
theorem d19_32 : own_D b'19 32 .ireturn 1 33 := by decide +kernel
theorem pn_19 : plainFor (⟨"java/lang/StringLatin1", "indexOfChar", "([BIII)I"⟩ : MethodName) = true := plainFor_of_name (by first | (simp [plainName, overriddenIn]; done) | decide +kernel)
theorem rm19_1 (l : Launch) (Z : State) (a0 : Array Value) (hw : own_hw a0 Z) (a1 : Addr) (p2 : Int32) (k1 : ClassId) (b0 : Int32) (h0 : Heap) (n0 : Nat) (Z0 : n0 ≤ h0.size) (VT : Arv Z h0 a1 k1 .byte (1 : Int32) [(.int b0)] v'0) (k0_ : ¬ p2 < (0 : Int32)) (k1_ : ¬ (255 : Int32) < p2) (kb_ : p2.toInt8.toInt32 = p2) :
  own_M l Z [] own_y17 b'19 6 (some .int) ⟨0, 0, 0, 0⟩ #[(.ref a1), (.int p2), v'0, v'1] h0 (QIX (p2 ∈ ([b0] : List Int32)) h0 n0) := by
 refine own_start (n0 := n0) hw "java/lang/StringLatin1" (L := #[.val (.ref a1), .val (.int p2), .val v'0, .val v'1, .unset, .unset]) pn_19 (fun {p e s m below meth c s₁} q hx W hml hZ hown hnm hlk hrt X0 e0 N0 => ?_)
 have hby := q.2
 refine own_iln X0 q d19_0 rfl (own_stp 2 (fun _ k => XS.i2b X0.here hx rfl (q.d d19_1) rfl k) ?_)
 rw [kb_]
 show own_Fin _ _ _ _ (s₁.setTop (mkF m 2 #[.val (.ref a1), .val (.int p2), .val v'0, .val v'1, .unset, .unset] [(.int p2)]))
 refine own_is X0 q d19_2 (l' := #[.val (.ref a1), .val (.int p2), .val v'0, .val v'1, .val (.int p2), .unset]) rfl (own_iln X0 q d19_4 rfl (own_is X0 q d19_5 (l' := #[.val (.ref a1), .val (.int p2), .val v'0, .val v'1, .val (.int p2), .val v'0]) rfl (own_il X0 q d19_7 rfl (own_iln X0 q d19_9 rfl (own_cn X0 q d19_10 ((tlt ((by decide) : (0 : Int32) < (1 : Int32))).2.1) (own_aln X0 q d19_13 rfl rfl (own_il X0 q d19_14 rfl (own_bld (v := (.int b0)) X0 q hZ e0 VT d19_16 (by decide) rfl (own_il X0 q d19_17 rfl ?_)))))))))
 by_cases hc19_246 : b0 = p2
 ·refine own_cn X0 q d19_19 ((teq hc19_246).2) (own_il X0 q d19_22 rfl ?_)
  refine own_rI X0 q hrt d19_24 hlk (by decide) ?_
  show QIX (p2 ∈ ([b0] : List Int32)) h0 n0 _ s₁.heap _
  rw [e0]
  exact ⟨_, rfl, N0, rfl, Or.inl ⟨by decide, by simp [hc19_246]⟩⟩
 ·refine own_cy X0 q d19_19 ((feq hc19_246).2) (own_iik X0 q d19_25 rfl (show ((0 : Int32) + (1 : Int32)) = (1 : Int32) by decide) (l' := #[.val (.ref a1), .val (.int p2), .val v'0, .val v'1, .val (.int p2), .val v'1]) rfl (own_gt X0 q d19_28 (own_il X0 q d19_7 rfl (own_iln X0 q d19_9 rfl (own_cy X0 q d19_10 ((flt (Int32.lt_irrefl : ¬ ((1 : Int32) < (1 : Int32)))).2.1) (own_k X0 q d19_31 ?_))))))
  refine own_rI X0 q hrt d19_32 hlk (by decide) ?_
  show QIX (p2 ∈ ([b0] : List Int32)) h0 n0 _ s₁.heap _
  rw [e0]
  exact ⟨_, rfl, N0, rfl, Or.inr ⟨by decide, by simp [Ne.symm hc19_246]⟩⟩
theorem rm11_1 (l : Launch) (Z : State) (a0 : Array Value) (hw : own_hw a0 Z) (a1 : Addr) (p2 : Int32) (k1 : ClassId) (b0 : Int32) (h0 : Heap) (n0 : Nat) (Z0 : n0 ≤ h0.size) (VT : Arv Z h0 a1 k1 .byte (1 : Int32) [(.int b0)] v'0) (k0_ : ¬ p2 < (0 : Int32)) (k1_ : ¬ (255 : Int32) < p2) (kb_ : p2.toInt8.toInt32 = p2) :
  own_M l Z [] own_y13 b'11 4 (some .int) ⟨1, 0, 0, 17⟩ #[(.ref a1), (.int p2), v'0, v'1] h0 (QIX (p2 ∈ ([b0] : List Int32)) h0 n0) := by
 refine own_start (n0 := n0) hw "java/lang/StringLatin1" (L := #[.val (.ref a1), .val (.int p2), .val v'0, .val v'1]) pn_11 (fun {p e s m below meth c s₁} q hx W hml hZ hown hnm hlk hrt X0 e0 N0 => ?_)
 refine own_iln X0 q d11_0 rfl ?_
 refine own_cS X0 q hZ e0 hown hml (W 61 rfl) (W 62 rfl) (W 59 rfl) (W 63 rfl) (rm12 l Z a0 hw p2 h0 n0 Z0 k0_ k1_) d11_1 [(.int p2)] [] own_pd5 rfl rfl 0 (Nat.le_refl _) (by decide) (fun v251 T251 L251 X251 hQ251 => ?_)
 obtain ⟨rfl, N251q, e251⟩ := hQ251
 have N251 := Fr.app N0 N251q
 refine own_nv (own_zy X251 q d11_4 (((if0 _ _).trans (feq ((by decide) : ¬ ((1 : Int32) = (0 : Int32)))).2)) (own_iln X251 q d11_9 rfl (own_k X251 q d11_10 ?_)))
 refine own_cS X251 q hZ e251 hown hml (W 64 rfl) (W 65 rfl) (W 66 rfl) (W 67 rfl) (rm13 l Z a0 hw (0 : Int32) (0 : Int32) (0 : Int32) h0 n0 Z0 (by decide)) d11_11 [v'0, v'0] [] own_pd6 rfl rfl 0 (Nat.le_refl _) (by decide) (fun v252 T252 L252 X252 hQ252 => ?_)
 obtain ⟨rfl, N252q, e252⟩ := hQ252
 have N252 := Fr.app N251 N252q
 refine own_nv (own_isn X252 q d11_14 (l' := #[.val (.ref a1), .val (.int p2), .val v'0, .val v'1]) rfl (own_iln X252 q d11_15 rfl (own_aln X252 q d11_16 rfl rfl (own_alen (n := (1 : Int32)) X252 q hZ e252 VT d11_17 ?_))))
 refine own_cS X252 q hZ e252 hown hml (W 68 rfl) (W 69 rfl) (W 66 rfl) (W 70 rfl) (rm14 l Z a0 hw (1 : Int32) (1 : Int32) (1 : Int32) h0 n0 Z0 (by decide)) d11_18 [v'1, v'1] [] own_pd6 rfl rfl 0 (Nat.le_refl _) (by decide) (fun v253 T253 L253 X253 hQ253 => ?_)
 obtain ⟨rfl, N253q, e253⟩ := hQ253
 have N253 := Fr.app N252 N253q
 refine own_nv (own_isn X253 q d11_21 (l' := #[.val (.ref a1), .val (.int p2), .val v'0, .val v'1]) rfl (own_iln X253 q d11_22 rfl (own_iln X253 q d11_23 rfl (own_cy X253 q d11_24 ((tlt ((by decide) : (0 : Int32) < (1 : Int32))).1) (own_aln X253 q d11_29 rfl rfl (own_iln X253 q d11_30 rfl (own_iln X253 q d11_31 rfl (own_iln X253 q d11_32 rfl ?_))))))))
 refine own_cS X253 q hZ e253 hown hml (W 84 rfl) (W 85 rfl) (W 59 rfl) (W 86 rfl) (rm19_1 l Z a0 hw a1 p2 k1 b0 h0 n0 Z0 VT k0_ k1_ kb_) d11_33 [(.ref a1), (.int p2), v'0, v'1] [] own_pd9 rfl rfl 0 (Nat.le_refl _) (by decide) (fun v254 T254 L254 X254 hQ254 => ?_)
 obtain ⟨z254, rfl, N254q, e254, ix254⟩ := hQ254
 have N254 := Fr.app N253 N254q
 refine own_nv ?_
 refine own_rI X254 q hrt d11_36 hlk (by decide) ?_
 show QIX (p2 ∈ ([b0] : List Int32)) h0 n0 _ T254.heap _
 rw [e254]
 exact ⟨_, rfl, N254, rfl, ix254⟩
theorem rm7_1 (l : Launch) (Z : State) (a0 : Array Value) (hw : own_hw a0 Z) (a1 : Addr) (p2 : Int32) (t : Addr) (k1 : ClassId) (b0 : Int32) (cs0 : Int32) (h0 : Heap) (n0 : Nat) (Z0 : n0 ≤ h0.size) (EX : Exa Z h0 a1 "java/lang/String") (FV : F'1 Z h0 a1 (.ref t)) (VT : Arv Z h0 t k1 .byte (1 : Int32) [(.int b0)] v'0) (O0 : Old Z n0 h0) (SC_ : own_SC Z cs0) (FC : F'0 Z h0 a1 v'0) (k0_ : ¬ p2 < (0 : Int32)) (k1_ : ¬ (255 : Int32) < p2) (kb_ : p2.toInt8.toInt32 = p2) :
  own_M l Z [] own_y14 b'7 3 (some .int) ⟨2, 0, 0, 32⟩ #[(.ref a1), (.int p2), v'0] h0 (QIX (p2 ∈ ([b0] : List Int32)) h0 n0) := by
 obtain ⟨SCS, hcs⟩ := SC_
 refine own_start (n0 := n0) hw "java/lang/String" (L := #[.val (.ref a1), .val (.int p2), .val v'0]) pn_7 (fun {p e s m below meth c s₁} q hx W hml hZ hown hnm hlk hrt X0 e0 N0 => ?_)
 refine own_aln X0 q d7_0 rfl rfl ?_
 refine own_cV X0 q hZ e0 hown hml (W 41 rfl) (W 42 rfl) (W 44 rfl) (W 43 rfl) (W 7 rfl) (W 45 rfl) rfl EX (rm8 l Z a0 hw a1 cs0 h0 n0 Z0 O0 ⟨SCS, hcs⟩ FC) d7_1 [] [] own_pd7 rfl rfl 0 (Nat.le_refl _) (by decide) (fun v259 T259 L259 X259 hQ259 => ?_)
 obtain ⟨rfl, N259q, e259⟩ := hQ259
 have N259 := Fr.app N0 N259q
 refine own_nv (own_zn X259 q d7_4 (((if0 _ _).trans (feq ((by decide) : ¬ ((1 : Int32) = (0 : Int32)))).1)) (own_aln X259 q d7_7 rfl rfl ?_))
 refine own_gF X259 q hZ e259 hown (W 25 rfl) FV d7_8 fun T260 X260 e260 => ?_
 refine own_iln X260 q d7_11 rfl (own_iln X260 q d7_12 rfl (own_aln X260 q d7_13 rfl rfl ?_))
 refine own_cV X260 q hZ e260 hown hml (W 47 rfl) (W 48 rfl) (W 50 rfl) (W 49 rfl) (W 7 rfl) (W 51 rfl) rfl EX (rm9_1 l Z a0 hw a1 t k1 b0 cs0 h0 n0 Z0 EX FV VT O0 ⟨SCS, hcs⟩ FC) d7_14 [] [v'0, (.int p2), (.ref t)] own_pd8 rfl rfl 3 (Nat.le_refl _) (by decide) (fun v261 T261 L261 X261 hQ261 => ?_)
 obtain ⟨rfl, N261q, e261⟩ := hQ261
 have N261 := Fr.app N259 N261q
 refine own_nv ?_
 refine own_cS X261 q hZ e261 hown hml (W 57 rfl) (W 58 rfl) (W 59 rfl) (W 60 rfl) (rm11_1 l Z a0 hw t p2 k1 b0 h0 n0 Z0 VT k0_ k1_ kb_) d7_17 [(.ref t), (.int p2), v'0, v'1] [] own_pd9 rfl rfl 0 (Nat.le_refl _) (by decide) (fun v262 T262 L262 X262 hQ262 => ?_)
 obtain ⟨z262, rfl, N262q, e262, ix262⟩ := hQ262
 have N262 := Fr.app N261 N262q
 refine own_nv (own_gt X262 q d7_20 ?_)
 refine own_rI X262 q hrt d7_36 hlk (by decide) ?_
 show QIX (p2 ∈ ([b0] : List Int32)) h0 n0 _ T262.heap _
 rw [e262]
 exact ⟨_, rfl, N262, rfl, ix262⟩
theorem rm6_1 (l : Launch) (Z : State) (a0 : Array Value) (hw : own_hw a0 Z) (a1 : Addr) (p2 : Int32) (t : Addr) (k1 : ClassId) (b0 : Int32) (cs0 : Int32) (h0 : Heap) (n0 : Nat) (Z0 : n0 ≤ h0.size) (EX : Exa Z h0 a1 "java/lang/String") (FV : F'1 Z h0 a1 (.ref t)) (VT : Arv Z h0 t k1 .byte (1 : Int32) [(.int b0)] v'0) (O0 : Old Z n0 h0) (SC_ : own_SC Z cs0) (FC : F'0 Z h0 a1 v'0) (k0_ : ¬ p2 < (0 : Int32)) (k1_ : ¬ (255 : Int32) < p2) (kb_ : p2.toInt8.toInt32 = p2) :
  own_M l Z [] own_y15 b'6 2 (some .int) ⟨3, 0, 0, 46⟩ #[(.ref a1), (.int p2)] h0 (QIX (p2 ∈ ([b0] : List Int32)) h0 n0) := by
 obtain ⟨SCS, hcs⟩ := SC_
 refine own_start (n0 := n0) hw "java/lang/String" (L := #[.val (.ref a1), .val (.int p2)]) pn_6 (fun {p e s m below meth c s₁} q hx W hml hZ hown hnm hlk hrt X0 e0 N0 => ?_)
 refine own_aln X0 q d6_0 rfl rfl (own_iln X0 q d6_1 rfl (own_k X0 q d6_2 ?_))
 refine own_cV X0 q hZ e0 hown hml (W 36 rfl) (W 37 rfl) (W 39 rfl) (W 38 rfl) (W 7 rfl) (W 40 rfl) rfl EX (rm7_1 l Z a0 hw a1 p2 t k1 b0 cs0 h0 n0 Z0 EX FV VT O0 ⟨SCS, hcs⟩ FC k0_ k1_ kb_) d6_3 [(.int p2), v'0] [] own_pd6 rfl rfl 0 (Nat.le_refl _) (by decide) (fun v264 T264 L264 X264 hQ264 => ?_)
 obtain ⟨z264, rfl, N264q, e264, ix264⟩ := hQ264
 have N264 := Fr.app N0 N264q
 refine own_nv ?_
 refine own_rI X264 q hrt d6_6 hlk (by decide) ?_
 show QIX (p2 ∈ ([b0] : List Int32)) h0 n0 _ T264.heap _
 rw [e264]
 exact ⟨_, rfl, N264, rfl, ix264⟩
theorem rm5_1 (l : Launch) (Z : State) (a0 : Array Value) (hw : own_hw a0 Z) (a1 : Addr) (t : Addr) (k1 : ClassId) (b0 : Int32) (cs0 : Int32) (h0 : Heap) (n0 : Nat) (Z0 : n0 ≤ h0.size) (EX : Exa Z h0 a1 "java/lang/String") (FV : F'1 Z h0 a1 (.ref t)) (VT : Arv Z h0 t k1 .byte (1 : Int32) [(.int b0)] v'0) (O0 : Old Z n0 h0) (SC_ : own_SC Z cs0) (FC : F'0 Z h0 a1 v'0) :
  own_M l Z [] own_y16 b'5 1 (some .boolean) ⟨4, 0, 0, 59⟩ #[(.ref a1)] h0 (QM ((42 ∈ ([b0] : List Int32)) ∨ (63 ∈ ([b0] : List Int32))) h0 n0) := by
 obtain ⟨SCS, hcs⟩ := SC_
 refine own_start (n0 := n0) hw "com/example/endpoint/endpoint/maven/PathPattern" (L := #[.val (.ref a1)]) pn_5 (fun {p e s m below meth c s₁} q hx W hml hZ hown hnm hlk hrt X0 e0 N0 => ?_)
 refine own_aln X0 q d5_0 rfl rfl (own_k X0 q d5_1 ?_)
 refine own_cV X0 q hZ e0 hown hml (W 31 rfl) (W 32 rfl) (W 34 rfl) (W 33 rfl) (W 7 rfl) (W 35 rfl) rfl EX (rm6_1 l Z a0 hw a1 (42 : Int32) t k1 b0 cs0 h0 n0 Z0 EX FV VT O0 ⟨SCS, hcs⟩ FC (by decide) (by decide) (by decide)) d5_3 [(.int (42 : Int32))] [] own_pd10 rfl rfl 0 (Nat.le_refl _) (by decide) (fun v269 T269 L269 X269 hQ269 => ?_)
 obtain ⟨z269, rfl, N269q, e269, ix269⟩ := hQ269
 have N269 := Fr.app N0 N269q
 refine own_nv ?_
 by_cases hc6_270 : z269 < (0 : Int32)
 ·refine own_zn X269 q d5_6 (((if0 _ _).trans (tlt hc6_270).2.1)) (own_aln X269 q d5_9 rfl rfl (own_k X269 q d5_10 ?_))
  refine own_cV X269 q hZ e269 hown hml (W 31 rfl) (W 32 rfl) (W 34 rfl) (W 33 rfl) (W 7 rfl) (W 35 rfl) rfl EX (rm6_1 l Z a0 hw a1 (63 : Int32) t k1 b0 cs0 h0 n0 Z0 EX FV VT O0 ⟨SCS, hcs⟩ FC (by decide) (by decide) (by decide)) d5_12 [(.int (63 : Int32))] [] own_pd10 rfl rfl 0 (Nat.le_refl _) (by decide) (fun v271 T271 L271 X271 hQ271 => ?_)
  obtain ⟨z271, rfl, N271q, e271, ix271⟩ := hQ271
  have N271 := Fr.app N269 N271q
  refine own_nv ?_
  by_cases hc15_272 : z271 < (0 : Int32)
  ·refine own_zy X271 q d5_15 (((if0 _ _).trans (tlt hc15_272).1)) (own_k X271 q d5_22 ?_)
   refine own_rN X271 q hrt (by simp) d5_23 hlk (by decide) ?_
   show QM ((42 ∈ ([b0] : List Int32)) ∨ (63 ∈ ([b0] : List Int32))) h0 n0 _ T271.heap _
   rw [e271]
   exact ⟨_, rfl, N271, rfl, Or.inr ⟨rfl, fun q => q.elim (ix269.elim (fun r => absurd hc6_270 r.1) (fun r => r.2)) (ix271.elim (fun r => absurd hc15_272 r.1) (fun r => r.2))⟩⟩
  ·refine own_zn X271 q d5_15 (((if0 _ _).trans (flt hc15_272).1)) (own_k X271 q d5_18 (own_gt X271 q d5_19 ?_))
   refine own_rN X271 q hrt (by simp) d5_23 hlk (by decide) ?_
   show QM ((42 ∈ ([b0] : List Int32)) ∨ (63 ∈ ([b0] : List Int32))) h0 n0 _ T271.heap _
   rw [e271]
   exact ⟨_, rfl, N271, rfl, Or.inl ⟨rfl, Or.inr (ix271.elim (fun r => r.2) (fun r => absurd r.1 hc15_272))⟩⟩
 ·refine own_zy X269 q d5_6 (((if0 _ _).trans (flt hc6_270).2.1)) (own_k X269 q d5_18 (own_gt X269 q d5_19 ?_))
  refine own_rN X269 q hrt (by simp) d5_23 hlk (by decide) ?_
  show QM ((42 ∈ ([b0] : List Int32)) ∨ (63 ∈ ([b0] : List Int32))) h0 n0 _ T269.heap _
  rw [e269]
  exact ⟨_, rfl, N269, rfl, Or.inl ⟨rfl, Or.inl (ix269.elim (fun r => r.2) (fun r => absurd r.1 hc6_270))⟩⟩
theorem rm9_2 (l : Launch) (Z : State) (a0 : Array Value) (hw : own_hw a0 Z) (a1 : Addr) (t : Addr) (k1 : ClassId) (b0 b1 : Int32) (cs0 : Int32) (h0 : Heap) (n0 : Nat) (Z0 : n0 ≤ h0.size) (EX : Exa Z h0 a1 "java/lang/String") (FV : F'1 Z h0 a1 (.ref t)) (VT : Arv Z h0 t k1 .byte (2 : Int32) [(.int b0), (.int b1)] v'0) (O0 : Old Z n0 h0) (SC_ : own_SC Z cs0) (FC : F'0 Z h0 a1 v'0) :
  own_M l Z [] own_y12 b'9 1 (some .int) ⟨1, 0, 0, 13⟩ #[(.ref a1)] h0 (QI (2 : Int32) h0 n0) := by
 obtain ⟨SCS, hcs⟩ := SC_
 refine own_start (n0 := n0) hw "java/lang/String" (L := #[.val (.ref a1)]) pn_9 (fun {p e s m below meth c s₁} q hx W hml hZ hown hnm hlk hrt X0 e0 N0 => ?_)
 refine own_aln X0 q d9_0 rfl rfl ?_
 refine own_gF X0 q hZ e0 hown (W 25 rfl) FV d9_1 fun T275 X275 e275 => ?_
 refine own_alen (n := (2 : Int32)) X275 q hZ e275 VT d9_4 (own_aln X275 q d9_5 rfl rfl ?_)
 refine own_cV X275 q hZ e275 hown hml (W 52 rfl) (W 53 rfl) (W 55 rfl) (W 54 rfl) (W 7 rfl) (W 56 rfl) rfl EX (rm10 l Z a0 hw a1 cs0 h0 n0 Z0 O0 ⟨SCS, hcs⟩ FC) d9_6 [] [v'2] own_pd4 rfl rfl 1 (Nat.le_refl _) (by decide) (fun v276 T276 L276 X276 hQ276 => ?_)
 obtain ⟨rfl, N276q, e276⟩ := hQ276
 have N276 := Fr.app N0 N276q
 refine own_nv (own_stp 10 (fun _ k => XS.ishr X276.here hx rfl (q.d d9_9) rfl k) ?_)
 rw [show ((2 : Int32) >>> ((0 : Int32) &&& 31)) = (2 : Int32) from by decide]
 refine own_rI X276 q hrt d9_10 hlk (by decide) ?_
 show QI (2 : Int32) h0 n0 _ T276.heap _
 rw [e276]
 exact ⟨rfl, N276, rfl⟩
theorem rm19_2 (l : Launch) (Z : State) (a0 : Array Value) (hw : own_hw a0 Z) (a1 : Addr) (p2 : Int32) (k1 : ClassId) (b0 b1 : Int32) (h0 : Heap) (n0 : Nat) (Z0 : n0 ≤ h0.size) (VT : Arv Z h0 a1 k1 .byte (2 : Int32) [(.int b0), (.int b1)] v'0) (k0_ : ¬ p2 < (0 : Int32)) (k1_ : ¬ (255 : Int32) < p2) (kb_ : p2.toInt8.toInt32 = p2) :
  own_M l Z [] own_y17 b'19 6 (some .int) ⟨0, 0, 0, 0⟩ #[(.ref a1), (.int p2), v'0, v'2] h0 (QIX (p2 ∈ ([b0, b1] : List Int32)) h0 n0) := by
 refine own_start (n0 := n0) hw "java/lang/StringLatin1" (L := #[.val (.ref a1), .val (.int p2), .val v'0, .val v'2, .unset, .unset]) pn_19 (fun {p e s m below meth c s₁} q hx W hml hZ hown hnm hlk hrt X0 e0 N0 => ?_)
 have hby := q.2
 refine own_iln X0 q d19_0 rfl (own_stp 2 (fun _ k => XS.i2b X0.here hx rfl (q.d d19_1) rfl k) ?_)
 rw [kb_]
 show own_Fin _ _ _ _ (s₁.setTop (mkF m 2 #[.val (.ref a1), .val (.int p2), .val v'0, .val v'2, .unset, .unset] [(.int p2)]))
 refine own_is X0 q d19_2 (l' := #[.val (.ref a1), .val (.int p2), .val v'0, .val v'2, .val (.int p2), .unset]) rfl (own_iln X0 q d19_4 rfl (own_is X0 q d19_5 (l' := #[.val (.ref a1), .val (.int p2), .val v'0, .val v'2, .val (.int p2), .val v'0]) rfl (own_il X0 q d19_7 rfl (own_iln X0 q d19_9 rfl (own_cn X0 q d19_10 ((tlt ((by decide) : (0 : Int32) < (2 : Int32))).2.1) (own_aln X0 q d19_13 rfl rfl (own_il X0 q d19_14 rfl (own_bld (v := (.int b0)) X0 q hZ e0 VT d19_16 (by decide) rfl (own_il X0 q d19_17 rfl ?_)))))))))
 by_cases hc19_279 : b0 = p2
 ·refine own_cn X0 q d19_19 ((teq hc19_279).2) (own_il X0 q d19_22 rfl ?_)
  refine own_rI X0 q hrt d19_24 hlk (by decide) ?_
  show QIX (p2 ∈ ([b0, b1] : List Int32)) h0 n0 _ s₁.heap _
  rw [e0]
  exact ⟨_, rfl, N0, rfl, Or.inl ⟨by decide, by simp [hc19_279]⟩⟩
 ·refine own_cy X0 q d19_19 ((feq hc19_279).2) (own_iik X0 q d19_25 rfl (show ((0 : Int32) + (1 : Int32)) = (1 : Int32) by decide) (l' := #[.val (.ref a1), .val (.int p2), .val v'0, .val v'2, .val (.int p2), .val v'1]) rfl (own_gt X0 q d19_28 (own_il X0 q d19_7 rfl (own_iln X0 q d19_9 rfl (own_cn X0 q d19_10 ((tlt ((by decide) : (1 : Int32) < (2 : Int32))).2.1) (own_aln X0 q d19_13 rfl rfl (own_il X0 q d19_14 rfl (own_bld (v := (.int b1)) X0 q hZ e0 VT d19_16 (by decide) rfl (own_il X0 q d19_17 rfl ?_)))))))))
  by_cases hc19_280 : b1 = p2
  ·refine own_cn X0 q d19_19 ((teq hc19_280).2) (own_il X0 q d19_22 rfl ?_)
   refine own_rI X0 q hrt d19_24 hlk (by decide) ?_
   show QIX (p2 ∈ ([b0, b1] : List Int32)) h0 n0 _ s₁.heap _
   rw [e0]
   exact ⟨_, rfl, N0, rfl, Or.inl ⟨by decide, by simp [hc19_280]⟩⟩
  ·refine own_cy X0 q d19_19 ((feq hc19_280).2) (own_iik X0 q d19_25 rfl (show ((1 : Int32) + (1 : Int32)) = (2 : Int32) by decide) (l' := #[.val (.ref a1), .val (.int p2), .val v'0, .val v'2, .val (.int p2), .val v'2]) rfl (own_gt X0 q d19_28 (own_il X0 q d19_7 rfl (own_iln X0 q d19_9 rfl (own_cy X0 q d19_10 ((flt (Int32.lt_irrefl : ¬ ((2 : Int32) < (2 : Int32)))).2.1) (own_k X0 q d19_31 ?_))))))
   refine own_rI X0 q hrt d19_32 hlk (by decide) ?_
   show QIX (p2 ∈ ([b0, b1] : List Int32)) h0 n0 _ s₁.heap _
   rw [e0]
   exact ⟨_, rfl, N0, rfl, Or.inr ⟨by decide, by simp [Ne.symm hc19_279, Ne.symm hc19_280]⟩⟩
theorem rm11_2 (l : Launch) (Z : State) (a0 : Array Value) (hw : own_hw a0 Z) (a1 : Addr) (p2 : Int32) (k1 : ClassId) (b0 b1 : Int32) (h0 : Heap) (n0 : Nat) (Z0 : n0 ≤ h0.size) (VT : Arv Z h0 a1 k1 .byte (2 : Int32) [(.int b0), (.int b1)] v'0) (k0_ : ¬ p2 < (0 : Int32)) (k1_ : ¬ (255 : Int32) < p2) (kb_ : p2.toInt8.toInt32 = p2) :
  own_M l Z [] own_y13 b'11 4 (some .int) ⟨1, 0, 0, 17⟩ #[(.ref a1), (.int p2), v'0, v'2] h0 (QIX (p2 ∈ ([b0, b1] : List Int32)) h0 n0) := by
 refine own_start (n0 := n0) hw "java/lang/StringLatin1" (L := #[.val (.ref a1), .val (.int p2), .val v'0, .val v'2]) pn_11 (fun {p e s m below meth c s₁} q hx W hml hZ hown hnm hlk hrt X0 e0 N0 => ?_)
 refine own_iln X0 q d11_0 rfl ?_
 refine own_cS X0 q hZ e0 hown hml (W 61 rfl) (W 62 rfl) (W 59 rfl) (W 63 rfl) (rm12 l Z a0 hw p2 h0 n0 Z0 k0_ k1_) d11_1 [(.int p2)] [] own_pd5 rfl rfl 0 (Nat.le_refl _) (by decide) (fun v285 T285 L285 X285 hQ285 => ?_)
 obtain ⟨rfl, N285q, e285⟩ := hQ285
 have N285 := Fr.app N0 N285q
 refine own_nv (own_zy X285 q d11_4 (((if0 _ _).trans (feq ((by decide) : ¬ ((1 : Int32) = (0 : Int32)))).2)) (own_iln X285 q d11_9 rfl (own_k X285 q d11_10 ?_)))
 refine own_cS X285 q hZ e285 hown hml (W 64 rfl) (W 65 rfl) (W 66 rfl) (W 67 rfl) (rm13 l Z a0 hw (0 : Int32) (0 : Int32) (0 : Int32) h0 n0 Z0 (by decide)) d11_11 [v'0, v'0] [] own_pd6 rfl rfl 0 (Nat.le_refl _) (by decide) (fun v286 T286 L286 X286 hQ286 => ?_)
 obtain ⟨rfl, N286q, e286⟩ := hQ286
 have N286 := Fr.app N285 N286q
 refine own_nv (own_isn X286 q d11_14 (l' := #[.val (.ref a1), .val (.int p2), .val v'0, .val v'2]) rfl (own_iln X286 q d11_15 rfl (own_aln X286 q d11_16 rfl rfl (own_alen (n := (2 : Int32)) X286 q hZ e286 VT d11_17 ?_))))
 refine own_cS X286 q hZ e286 hown hml (W 68 rfl) (W 69 rfl) (W 66 rfl) (W 70 rfl) (rm14 l Z a0 hw (2 : Int32) (2 : Int32) (2 : Int32) h0 n0 Z0 (by decide)) d11_18 [v'2, v'2] [] own_pd6 rfl rfl 0 (Nat.le_refl _) (by decide) (fun v287 T287 L287 X287 hQ287 => ?_)
 obtain ⟨rfl, N287q, e287⟩ := hQ287
 have N287 := Fr.app N286 N287q
 refine own_nv (own_isn X287 q d11_21 (l' := #[.val (.ref a1), .val (.int p2), .val v'0, .val v'2]) rfl (own_iln X287 q d11_22 rfl (own_iln X287 q d11_23 rfl (own_cy X287 q d11_24 ((tlt ((by decide) : (0 : Int32) < (2 : Int32))).1) (own_aln X287 q d11_29 rfl rfl (own_iln X287 q d11_30 rfl (own_iln X287 q d11_31 rfl (own_iln X287 q d11_32 rfl ?_))))))))
 refine own_cS X287 q hZ e287 hown hml (W 84 rfl) (W 85 rfl) (W 59 rfl) (W 86 rfl) (rm19_2 l Z a0 hw a1 p2 k1 b0 b1 h0 n0 Z0 VT k0_ k1_ kb_) d11_33 [(.ref a1), (.int p2), v'0, v'2] [] own_pd9 rfl rfl 0 (Nat.le_refl _) (by decide) (fun v288 T288 L288 X288 hQ288 => ?_)
 obtain ⟨z288, rfl, N288q, e288, ix288⟩ := hQ288
 have N288 := Fr.app N287 N288q
 refine own_nv ?_
 refine own_rI X288 q hrt d11_36 hlk (by decide) ?_
 show QIX (p2 ∈ ([b0, b1] : List Int32)) h0 n0 _ T288.heap _
 rw [e288]
 exact ⟨_, rfl, N288, rfl, ix288⟩
theorem rm7_2 (l : Launch) (Z : State) (a0 : Array Value) (hw : own_hw a0 Z) (a1 : Addr) (p2 : Int32) (t : Addr) (k1 : ClassId) (b0 b1 : Int32) (cs0 : Int32) (h0 : Heap) (n0 : Nat) (Z0 : n0 ≤ h0.size) (EX : Exa Z h0 a1 "java/lang/String") (FV : F'1 Z h0 a1 (.ref t)) (VT : Arv Z h0 t k1 .byte (2 : Int32) [(.int b0), (.int b1)] v'0) (O0 : Old Z n0 h0) (SC_ : own_SC Z cs0) (FC : F'0 Z h0 a1 v'0) (k0_ : ¬ p2 < (0 : Int32)) (k1_ : ¬ (255 : Int32) < p2) (kb_ : p2.toInt8.toInt32 = p2) :
  own_M l Z [] own_y14 b'7 3 (some .int) ⟨2, 0, 0, 32⟩ #[(.ref a1), (.int p2), v'0] h0 (QIX (p2 ∈ ([b0, b1] : List Int32)) h0 n0) := by
 obtain ⟨SCS, hcs⟩ := SC_
 refine own_start (n0 := n0) hw "java/lang/String" (L := #[.val (.ref a1), .val (.int p2), .val v'0]) pn_7 (fun {p e s m below meth c s₁} q hx W hml hZ hown hnm hlk hrt X0 e0 N0 => ?_)
 refine own_aln X0 q d7_0 rfl rfl ?_
 refine own_cV X0 q hZ e0 hown hml (W 41 rfl) (W 42 rfl) (W 44 rfl) (W 43 rfl) (W 7 rfl) (W 45 rfl) rfl EX (rm8 l Z a0 hw a1 cs0 h0 n0 Z0 O0 ⟨SCS, hcs⟩ FC) d7_1 [] [] own_pd7 rfl rfl 0 (Nat.le_refl _) (by decide) (fun v293 T293 L293 X293 hQ293 => ?_)
 obtain ⟨rfl, N293q, e293⟩ := hQ293
 have N293 := Fr.app N0 N293q
 refine own_nv (own_zn X293 q d7_4 (((if0 _ _).trans (feq ((by decide) : ¬ ((1 : Int32) = (0 : Int32)))).1)) (own_aln X293 q d7_7 rfl rfl ?_))
 refine own_gF X293 q hZ e293 hown (W 25 rfl) FV d7_8 fun T294 X294 e294 => ?_
 refine own_iln X294 q d7_11 rfl (own_iln X294 q d7_12 rfl (own_aln X294 q d7_13 rfl rfl ?_))
 refine own_cV X294 q hZ e294 hown hml (W 47 rfl) (W 48 rfl) (W 50 rfl) (W 49 rfl) (W 7 rfl) (W 51 rfl) rfl EX (rm9_2 l Z a0 hw a1 t k1 b0 b1 cs0 h0 n0 Z0 EX FV VT O0 ⟨SCS, hcs⟩ FC) d7_14 [] [v'0, (.int p2), (.ref t)] own_pd8 rfl rfl 3 (Nat.le_refl _) (by decide) (fun v295 T295 L295 X295 hQ295 => ?_)
 obtain ⟨rfl, N295q, e295⟩ := hQ295
 have N295 := Fr.app N293 N295q
 refine own_nv ?_
 refine own_cS X295 q hZ e295 hown hml (W 57 rfl) (W 58 rfl) (W 59 rfl) (W 60 rfl) (rm11_2 l Z a0 hw t p2 k1 b0 b1 h0 n0 Z0 VT k0_ k1_ kb_) d7_17 [(.ref t), (.int p2), v'0, v'2] [] own_pd9 rfl rfl 0 (Nat.le_refl _) (by decide) (fun v296 T296 L296 X296 hQ296 => ?_)
 obtain ⟨z296, rfl, N296q, e296, ix296⟩ := hQ296
 have N296 := Fr.app N295 N296q
 refine own_nv (own_gt X296 q d7_20 ?_)
 refine own_rI X296 q hrt d7_36 hlk (by decide) ?_
 show QIX (p2 ∈ ([b0, b1] : List Int32)) h0 n0 _ T296.heap _
 rw [e296]
 exact ⟨_, rfl, N296, rfl, ix296⟩
theorem rm6_2 (l : Launch) (Z : State) (a0 : Array Value) (hw : own_hw a0 Z) (a1 : Addr) (p2 : Int32) (t : Addr) (k1 : ClassId) (b0 b1 : Int32) (cs0 : Int32) (h0 : Heap) (n0 : Nat) (Z0 : n0 ≤ h0.size) (EX : Exa Z h0 a1 "java/lang/String") (FV : F'1 Z h0 a1 (.ref t)) (VT : Arv Z h0 t k1 .byte (2 : Int32) [(.int b0), (.int b1)] v'0) (O0 : Old Z n0 h0) (SC_ : own_SC Z cs0) (FC : F'0 Z h0 a1 v'0) (k0_ : ¬ p2 < (0 : Int32)) (k1_ : ¬ (255 : Int32) < p2) (kb_ : p2.toInt8.toInt32 = p2) :
  own_M l Z [] own_y15 b'6 2 (some .int) ⟨3, 0, 0, 46⟩ #[(.ref a1), (.int p2)] h0 (QIX (p2 ∈ ([b0, b1] : List Int32)) h0 n0) := by
 obtain ⟨SCS, hcs⟩ := SC_
 refine own_start (n0 := n0) hw "java/lang/String" (L := #[.val (.ref a1), .val (.int p2)]) pn_6 (fun {p e s m below meth c s₁} q hx W hml hZ hown hnm hlk hrt X0 e0 N0 => ?_)
 refine own_aln X0 q d6_0 rfl rfl (own_iln X0 q d6_1 rfl (own_k X0 q d6_2 ?_))
 refine own_cV X0 q hZ e0 hown hml (W 36 rfl) (W 37 rfl) (W 39 rfl) (W 38 rfl) (W 7 rfl) (W 40 rfl) rfl EX (rm7_2 l Z a0 hw a1 p2 t k1 b0 b1 cs0 h0 n0 Z0 EX FV VT O0 ⟨SCS, hcs⟩ FC k0_ k1_ kb_) d6_3 [(.int p2), v'0] [] own_pd6 rfl rfl 0 (Nat.le_refl _) (by decide) (fun v298 T298 L298 X298 hQ298 => ?_)
 obtain ⟨z298, rfl, N298q, e298, ix298⟩ := hQ298
 have N298 := Fr.app N0 N298q
 refine own_nv ?_
 refine own_rI X298 q hrt d6_6 hlk (by decide) ?_
 show QIX (p2 ∈ ([b0, b1] : List Int32)) h0 n0 _ T298.heap _
 rw [e298]
 exact ⟨_, rfl, N298, rfl, ix298⟩
theorem rm5_2 (l : Launch) (Z : State) (a0 : Array Value) (hw : own_hw a0 Z) (a1 : Addr) (t : Addr) (k1 : ClassId) (b0 b1 : Int32) (cs0 : Int32) (h0 : Heap) (n0 : Nat) (Z0 : n0 ≤ h0.size) (EX : Exa Z h0 a1 "java/lang/String") (FV : F'1 Z h0 a1 (.ref t)) (VT : Arv Z h0 t k1 .byte (2 : Int32) [(.int b0), (.int b1)] v'0) (O0 : Old Z n0 h0) (SC_ : own_SC Z cs0) (FC : F'0 Z h0 a1 v'0) :
  own_M l Z [] own_y16 b'5 1 (some .boolean) ⟨4, 0, 0, 59⟩ #[(.ref a1)] h0 (QM ((42 ∈ ([b0, b1] : List Int32)) ∨ (63 ∈ ([b0, b1] : List Int32))) h0 n0) := by
 obtain ⟨SCS, hcs⟩ := SC_
 refine own_start (n0 := n0) hw "com/example/endpoint/endpoint/maven/PathPattern" (L := #[.val (.ref a1)]) pn_5 (fun {p e s m below meth c s₁} q hx W hml hZ hown hnm hlk hrt X0 e0 N0 => ?_)
 refine own_aln X0 q d5_0 rfl rfl (own_k X0 q d5_1 ?_)
 refine own_cV X0 q hZ e0 hown hml (W 31 rfl) (W 32 rfl) (W 34 rfl) (W 33 rfl) (W 7 rfl) (W 35 rfl) rfl EX (rm6_2 l Z a0 hw a1 (42 : Int32) t k1 b0 b1 cs0 h0 n0 Z0 EX FV VT O0 ⟨SCS, hcs⟩ FC (by decide) (by decide) (by decide)) d5_3 [(.int (42 : Int32))] [] own_pd10 rfl rfl 0 (Nat.le_refl _) (by decide) (fun v303 T303 L303 X303 hQ303 => ?_)
 obtain ⟨z303, rfl, N303q, e303, ix303⟩ := hQ303
 have N303 := Fr.app N0 N303q
 refine own_nv ?_
 by_cases hc6_304 : z303 < (0 : Int32)
 ·refine own_zn X303 q d5_6 (((if0 _ _).trans (tlt hc6_304).2.1)) (own_aln X303 q d5_9 rfl rfl (own_k X303 q d5_10 ?_))
  refine own_cV X303 q hZ e303 hown hml (W 31 rfl) (W 32 rfl) (W 34 rfl) (W 33 rfl) (W 7 rfl) (W 35 rfl) rfl EX (rm6_2 l Z a0 hw a1 (63 : Int32) t k1 b0 b1 cs0 h0 n0 Z0 EX FV VT O0 ⟨SCS, hcs⟩ FC (by decide) (by decide) (by decide)) d5_12 [(.int (63 : Int32))] [] own_pd10 rfl rfl 0 (Nat.le_refl _) (by decide) (fun v305 T305 L305 X305 hQ305 => ?_)
  obtain ⟨z305, rfl, N305q, e305, ix305⟩ := hQ305
  have N305 := Fr.app N303 N305q
  refine own_nv ?_
  by_cases hc15_306 : z305 < (0 : Int32)
  ·refine own_zy X305 q d5_15 (((if0 _ _).trans (tlt hc15_306).1)) (own_k X305 q d5_22 ?_)
   refine own_rN X305 q hrt (by simp) d5_23 hlk (by decide) ?_
   show QM ((42 ∈ ([b0, b1] : List Int32)) ∨ (63 ∈ ([b0, b1] : List Int32))) h0 n0 _ T305.heap _
   rw [e305]
   exact ⟨_, rfl, N305, rfl, Or.inr ⟨rfl, fun q => q.elim (ix303.elim (fun r => absurd hc6_304 r.1) (fun r => r.2)) (ix305.elim (fun r => absurd hc15_306 r.1) (fun r => r.2))⟩⟩
  ·refine own_zn X305 q d5_15 (((if0 _ _).trans (flt hc15_306).1)) (own_k X305 q d5_18 (own_gt X305 q d5_19 ?_))
   refine own_rN X305 q hrt (by simp) d5_23 hlk (by decide) ?_
   show QM ((42 ∈ ([b0, b1] : List Int32)) ∨ (63 ∈ ([b0, b1] : List Int32))) h0 n0 _ T305.heap _
   rw [e305]
   exact ⟨_, rfl, N305, rfl, Or.inl ⟨rfl, Or.inr (ix305.elim (fun r => r.2) (fun r => absurd r.1 hc15_306))⟩⟩
 ·refine own_zy X303 q d5_6 (((if0 _ _).trans (flt hc6_304).2.1)) (own_k X303 q d5_18 (own_gt X303 q d5_19 ?_))
  refine own_rN X303 q hrt (by simp) d5_23 hlk (by decide) ?_
  show QM ((42 ∈ ([b0, b1] : List Int32)) ∨ (63 ∈ ([b0, b1] : List Int32))) h0 n0 _ T303.heap _
  rw [e303]
  exact ⟨_, rfl, N303, rfl, Or.inl ⟨rfl, Or.inl (ix303.elim (fun r => r.2) (fun r => absurd r.1 hc6_304))⟩⟩
theorem rm9_3 (l : Launch) (Z : State) (a0 : Array Value) (hw : own_hw a0 Z) (a1 : Addr) (t : Addr) (k1 : ClassId) (b0 b1 b2 : Int32) (cs0 : Int32) (h0 : Heap) (n0 : Nat) (Z0 : n0 ≤ h0.size) (EX : Exa Z h0 a1 "java/lang/String") (FV : F'1 Z h0 a1 (.ref t)) (VT : Arv Z h0 t k1 .byte (3 : Int32) [(.int b0), (.int b1), (.int b2)] v'0) (O0 : Old Z n0 h0) (SC_ : own_SC Z cs0) (FC : F'0 Z h0 a1 v'0) :
  own_M l Z [] own_y12 b'9 1 (some .int) ⟨1, 0, 0, 13⟩ #[(.ref a1)] h0 (QI (3 : Int32) h0 n0) := by
 obtain ⟨SCS, hcs⟩ := SC_
 refine own_start (n0 := n0) hw "java/lang/String" (L := #[.val (.ref a1)]) pn_9 (fun {p e s m below meth c s₁} q hx W hml hZ hown hnm hlk hrt X0 e0 N0 => ?_)
 refine own_aln X0 q d9_0 rfl rfl ?_
 refine own_gF X0 q hZ e0 hown (W 25 rfl) FV d9_1 fun T309 X309 e309 => ?_
 refine own_alen (n := (3 : Int32)) X309 q hZ e309 VT d9_4 (own_aln X309 q d9_5 rfl rfl ?_)
 refine own_cV X309 q hZ e309 hown hml (W 52 rfl) (W 53 rfl) (W 55 rfl) (W 54 rfl) (W 7 rfl) (W 56 rfl) rfl EX (rm10 l Z a0 hw a1 cs0 h0 n0 Z0 O0 ⟨SCS, hcs⟩ FC) d9_6 [] [v'3] own_pd4 rfl rfl 1 (Nat.le_refl _) (by decide) (fun v310 T310 L310 X310 hQ310 => ?_)
 obtain ⟨rfl, N310q, e310⟩ := hQ310
 have N310 := Fr.app N0 N310q
 refine own_nv (own_stp 10 (fun _ k => XS.ishr X310.here hx rfl (q.d d9_9) rfl k) ?_)
 rw [show ((3 : Int32) >>> ((0 : Int32) &&& 31)) = (3 : Int32) from by decide]
 refine own_rI X310 q hrt d9_10 hlk (by decide) ?_
 show QI (3 : Int32) h0 n0 _ T310.heap _
 rw [e310]
 exact ⟨rfl, N310, rfl⟩
theorem rm19_3 (l : Launch) (Z : State) (a0 : Array Value) (hw : own_hw a0 Z) (a1 : Addr) (p2 : Int32) (k1 : ClassId) (b0 b1 b2 : Int32) (h0 : Heap) (n0 : Nat) (Z0 : n0 ≤ h0.size) (VT : Arv Z h0 a1 k1 .byte (3 : Int32) [(.int b0), (.int b1), (.int b2)] v'0) (k0_ : ¬ p2 < (0 : Int32)) (k1_ : ¬ (255 : Int32) < p2) (kb_ : p2.toInt8.toInt32 = p2) :
  own_M l Z [] own_y17 b'19 6 (some .int) ⟨0, 0, 0, 0⟩ #[(.ref a1), (.int p2), v'0, v'3] h0 (QIX (p2 ∈ ([b0, b1, b2] : List Int32)) h0 n0) := by
 refine own_start (n0 := n0) hw "java/lang/StringLatin1" (L := #[.val (.ref a1), .val (.int p2), .val v'0, .val v'3, .unset, .unset]) pn_19 (fun {p e s m below meth c s₁} q hx W hml hZ hown hnm hlk hrt X0 e0 N0 => ?_)
 have hby := q.2
 refine own_iln X0 q d19_0 rfl (own_stp 2 (fun _ k => XS.i2b X0.here hx rfl (q.d d19_1) rfl k) ?_)
 rw [kb_]
 show own_Fin _ _ _ _ (s₁.setTop (mkF m 2 #[.val (.ref a1), .val (.int p2), .val v'0, .val v'3, .unset, .unset] [(.int p2)]))
 refine own_is X0 q d19_2 (l' := #[.val (.ref a1), .val (.int p2), .val v'0, .val v'3, .val (.int p2), .unset]) rfl (own_iln X0 q d19_4 rfl (own_is X0 q d19_5 (l' := #[.val (.ref a1), .val (.int p2), .val v'0, .val v'3, .val (.int p2), .val v'0]) rfl (own_il X0 q d19_7 rfl (own_iln X0 q d19_9 rfl (own_cn X0 q d19_10 ((tlt ((by decide) : (0 : Int32) < (3 : Int32))).2.1) (own_aln X0 q d19_13 rfl rfl (own_il X0 q d19_14 rfl (own_bld (v := (.int b0)) X0 q hZ e0 VT d19_16 (by decide) rfl (own_il X0 q d19_17 rfl ?_)))))))))
 by_cases hc19_314 : b0 = p2
 ·refine own_cn X0 q d19_19 ((teq hc19_314).2) (own_il X0 q d19_22 rfl ?_)
  refine own_rI X0 q hrt d19_24 hlk (by decide) ?_
  show QIX (p2 ∈ ([b0, b1, b2] : List Int32)) h0 n0 _ s₁.heap _
  rw [e0]
  exact ⟨_, rfl, N0, rfl, Or.inl ⟨by decide, by simp [hc19_314]⟩⟩
 ·refine own_cy X0 q d19_19 ((feq hc19_314).2) (own_iik X0 q d19_25 rfl (show ((0 : Int32) + (1 : Int32)) = (1 : Int32) by decide) (l' := #[.val (.ref a1), .val (.int p2), .val v'0, .val v'3, .val (.int p2), .val v'1]) rfl (own_gt X0 q d19_28 (own_il X0 q d19_7 rfl (own_iln X0 q d19_9 rfl (own_cn X0 q d19_10 ((tlt ((by decide) : (1 : Int32) < (3 : Int32))).2.1) (own_aln X0 q d19_13 rfl rfl (own_il X0 q d19_14 rfl (own_bld (v := (.int b1)) X0 q hZ e0 VT d19_16 (by decide) rfl (own_il X0 q d19_17 rfl ?_)))))))))
  by_cases hc19_315 : b1 = p2
  ·refine own_cn X0 q d19_19 ((teq hc19_315).2) (own_il X0 q d19_22 rfl ?_)
   refine own_rI X0 q hrt d19_24 hlk (by decide) ?_
   show QIX (p2 ∈ ([b0, b1, b2] : List Int32)) h0 n0 _ s₁.heap _
   rw [e0]
   exact ⟨_, rfl, N0, rfl, Or.inl ⟨by decide, by simp [hc19_315]⟩⟩
  ·refine own_cy X0 q d19_19 ((feq hc19_315).2) (own_iik X0 q d19_25 rfl (show ((1 : Int32) + (1 : Int32)) = (2 : Int32) by decide) (l' := #[.val (.ref a1), .val (.int p2), .val v'0, .val v'3, .val (.int p2), .val v'2]) rfl (own_gt X0 q d19_28 (own_il X0 q d19_7 rfl (own_iln X0 q d19_9 rfl (own_cn X0 q d19_10 ((tlt ((by decide) : (2 : Int32) < (3 : Int32))).2.1) (own_aln X0 q d19_13 rfl rfl (own_il X0 q d19_14 rfl (own_bld (v := (.int b2)) X0 q hZ e0 VT d19_16 (by decide) rfl (own_il X0 q d19_17 rfl ?_)))))))))
   by_cases hc19_316 : b2 = p2
   ·refine own_cn X0 q d19_19 ((teq hc19_316).2) (own_il X0 q d19_22 rfl ?_)
    refine own_rI X0 q hrt d19_24 hlk (by decide) ?_
    show QIX (p2 ∈ ([b0, b1, b2] : List Int32)) h0 n0 _ s₁.heap _
    rw [e0]
    exact ⟨_, rfl, N0, rfl, Or.inl ⟨by decide, by simp [hc19_316]⟩⟩
   ·refine own_cy X0 q d19_19 ((feq hc19_316).2) (own_iik X0 q d19_25 rfl (show ((2 : Int32) + (1 : Int32)) = (3 : Int32) by decide) (l' := #[.val (.ref a1), .val (.int p2), .val v'0, .val v'3, .val (.int p2), .val v'3]) rfl (own_gt X0 q d19_28 (own_il X0 q d19_7 rfl (own_iln X0 q d19_9 rfl (own_cy X0 q d19_10 ((flt (Int32.lt_irrefl : ¬ ((3 : Int32) < (3 : Int32)))).2.1) (own_k X0 q d19_31 ?_))))))
    refine own_rI X0 q hrt d19_32 hlk (by decide) ?_
    show QIX (p2 ∈ ([b0, b1, b2] : List Int32)) h0 n0 _ s₁.heap _
    rw [e0]
    exact ⟨_, rfl, N0, rfl, Or.inr ⟨by decide, by simp [Ne.symm hc19_314, Ne.symm hc19_315, Ne.symm hc19_316]⟩⟩
theorem rm11_3 (l : Launch) (Z : State) (a0 : Array Value) (hw : own_hw a0 Z) (a1 : Addr) (p2 : Int32) (k1 : ClassId) (b0 b1 b2 : Int32) (h0 : Heap) (n0 : Nat) (Z0 : n0 ≤ h0.size) (VT : Arv Z h0 a1 k1 .byte (3 : Int32) [(.int b0), (.int b1), (.int b2)] v'0) (k0_ : ¬ p2 < (0 : Int32)) (k1_ : ¬ (255 : Int32) < p2) (kb_ : p2.toInt8.toInt32 = p2) :
  own_M l Z [] own_y13 b'11 4 (some .int) ⟨1, 0, 0, 17⟩ #[(.ref a1), (.int p2), v'0, v'3] h0 (QIX (p2 ∈ ([b0, b1, b2] : List Int32)) h0 n0) := by
 refine own_start (n0 := n0) hw "java/lang/StringLatin1" (L := #[.val (.ref a1), .val (.int p2), .val v'0, .val v'3]) pn_11 (fun {p e s m below meth c s₁} q hx W hml hZ hown hnm hlk hrt X0 e0 N0 => ?_)
 refine own_iln X0 q d11_0 rfl ?_
 refine own_cS X0 q hZ e0 hown hml (W 61 rfl) (W 62 rfl) (W 59 rfl) (W 63 rfl) (rm12 l Z a0 hw p2 h0 n0 Z0 k0_ k1_) d11_1 [(.int p2)] [] own_pd5 rfl rfl 0 (Nat.le_refl _) (by decide) (fun v321 T321 L321 X321 hQ321 => ?_)
 obtain ⟨rfl, N321q, e321⟩ := hQ321
 have N321 := Fr.app N0 N321q
 refine own_nv (own_zy X321 q d11_4 (((if0 _ _).trans (feq ((by decide) : ¬ ((1 : Int32) = (0 : Int32)))).2)) (own_iln X321 q d11_9 rfl (own_k X321 q d11_10 ?_)))
 refine own_cS X321 q hZ e321 hown hml (W 64 rfl) (W 65 rfl) (W 66 rfl) (W 67 rfl) (rm13 l Z a0 hw (0 : Int32) (0 : Int32) (0 : Int32) h0 n0 Z0 (by decide)) d11_11 [v'0, v'0] [] own_pd6 rfl rfl 0 (Nat.le_refl _) (by decide) (fun v322 T322 L322 X322 hQ322 => ?_)
 obtain ⟨rfl, N322q, e322⟩ := hQ322
 have N322 := Fr.app N321 N322q
 refine own_nv (own_isn X322 q d11_14 (l' := #[.val (.ref a1), .val (.int p2), .val v'0, .val v'3]) rfl (own_iln X322 q d11_15 rfl (own_aln X322 q d11_16 rfl rfl (own_alen (n := (3 : Int32)) X322 q hZ e322 VT d11_17 ?_))))
 refine own_cS X322 q hZ e322 hown hml (W 68 rfl) (W 69 rfl) (W 66 rfl) (W 70 rfl) (rm14 l Z a0 hw (3 : Int32) (3 : Int32) (3 : Int32) h0 n0 Z0 (by decide)) d11_18 [v'3, v'3] [] own_pd6 rfl rfl 0 (Nat.le_refl _) (by decide) (fun v323 T323 L323 X323 hQ323 => ?_)
 obtain ⟨rfl, N323q, e323⟩ := hQ323
 have N323 := Fr.app N322 N323q
 refine own_nv (own_isn X323 q d11_21 (l' := #[.val (.ref a1), .val (.int p2), .val v'0, .val v'3]) rfl (own_iln X323 q d11_22 rfl (own_iln X323 q d11_23 rfl (own_cy X323 q d11_24 ((tlt ((by decide) : (0 : Int32) < (3 : Int32))).1) (own_aln X323 q d11_29 rfl rfl (own_iln X323 q d11_30 rfl (own_iln X323 q d11_31 rfl (own_iln X323 q d11_32 rfl ?_))))))))
 refine own_cS X323 q hZ e323 hown hml (W 84 rfl) (W 85 rfl) (W 59 rfl) (W 86 rfl) (rm19_3 l Z a0 hw a1 p2 k1 b0 b1 b2 h0 n0 Z0 VT k0_ k1_ kb_) d11_33 [(.ref a1), (.int p2), v'0, v'3] [] own_pd9 rfl rfl 0 (Nat.le_refl _) (by decide) (fun v324 T324 L324 X324 hQ324 => ?_)
 obtain ⟨z324, rfl, N324q, e324, ix324⟩ := hQ324
 have N324 := Fr.app N323 N324q
 refine own_nv ?_
 refine own_rI X324 q hrt d11_36 hlk (by decide) ?_
 show QIX (p2 ∈ ([b0, b1, b2] : List Int32)) h0 n0 _ T324.heap _
 rw [e324]
 exact ⟨_, rfl, N324, rfl, ix324⟩
theorem rm7_3 (l : Launch) (Z : State) (a0 : Array Value) (hw : own_hw a0 Z) (a1 : Addr) (p2 : Int32) (t : Addr) (k1 : ClassId) (b0 b1 b2 : Int32) (cs0 : Int32) (h0 : Heap) (n0 : Nat) (Z0 : n0 ≤ h0.size) (EX : Exa Z h0 a1 "java/lang/String") (FV : F'1 Z h0 a1 (.ref t)) (VT : Arv Z h0 t k1 .byte (3 : Int32) [(.int b0), (.int b1), (.int b2)] v'0) (O0 : Old Z n0 h0) (SC_ : own_SC Z cs0) (FC : F'0 Z h0 a1 v'0) (k0_ : ¬ p2 < (0 : Int32)) (k1_ : ¬ (255 : Int32) < p2) (kb_ : p2.toInt8.toInt32 = p2) :
  own_M l Z [] own_y14 b'7 3 (some .int) ⟨2, 0, 0, 32⟩ #[(.ref a1), (.int p2), v'0] h0 (QIX (p2 ∈ ([b0, b1, b2] : List Int32)) h0 n0) := by
 obtain ⟨SCS, hcs⟩ := SC_
 refine own_start (n0 := n0) hw "java/lang/String" (L := #[.val (.ref a1), .val (.int p2), .val v'0]) pn_7 (fun {p e s m below meth c s₁} q hx W hml hZ hown hnm hlk hrt X0 e0 N0 => ?_)
 refine own_aln X0 q d7_0 rfl rfl ?_
 refine own_cV X0 q hZ e0 hown hml (W 41 rfl) (W 42 rfl) (W 44 rfl) (W 43 rfl) (W 7 rfl) (W 45 rfl) rfl EX (rm8 l Z a0 hw a1 cs0 h0 n0 Z0 O0 ⟨SCS, hcs⟩ FC) d7_1 [] [] own_pd7 rfl rfl 0 (Nat.le_refl _) (by decide) (fun v329 T329 L329 X329 hQ329 => ?_)
 obtain ⟨rfl, N329q, e329⟩ := hQ329
 have N329 := Fr.app N0 N329q
 refine own_nv (own_zn X329 q d7_4 (((if0 _ _).trans (feq ((by decide) : ¬ ((1 : Int32) = (0 : Int32)))).1)) (own_aln X329 q d7_7 rfl rfl ?_))
 refine own_gF X329 q hZ e329 hown (W 25 rfl) FV d7_8 fun T330 X330 e330 => ?_
 refine own_iln X330 q d7_11 rfl (own_iln X330 q d7_12 rfl (own_aln X330 q d7_13 rfl rfl ?_))
 refine own_cV X330 q hZ e330 hown hml (W 47 rfl) (W 48 rfl) (W 50 rfl) (W 49 rfl) (W 7 rfl) (W 51 rfl) rfl EX (rm9_3 l Z a0 hw a1 t k1 b0 b1 b2 cs0 h0 n0 Z0 EX FV VT O0 ⟨SCS, hcs⟩ FC) d7_14 [] [v'0, (.int p2), (.ref t)] own_pd8 rfl rfl 3 (Nat.le_refl _) (by decide) (fun v331 T331 L331 X331 hQ331 => ?_)
 obtain ⟨rfl, N331q, e331⟩ := hQ331
 have N331 := Fr.app N329 N331q
 refine own_nv ?_
 refine own_cS X331 q hZ e331 hown hml (W 57 rfl) (W 58 rfl) (W 59 rfl) (W 60 rfl) (rm11_3 l Z a0 hw t p2 k1 b0 b1 b2 h0 n0 Z0 VT k0_ k1_ kb_) d7_17 [(.ref t), (.int p2), v'0, v'3] [] own_pd9 rfl rfl 0 (Nat.le_refl _) (by decide) (fun v332 T332 L332 X332 hQ332 => ?_)
 obtain ⟨z332, rfl, N332q, e332, ix332⟩ := hQ332
 have N332 := Fr.app N331 N332q
 refine own_nv (own_gt X332 q d7_20 ?_)
 refine own_rI X332 q hrt d7_36 hlk (by decide) ?_
 show QIX (p2 ∈ ([b0, b1, b2] : List Int32)) h0 n0 _ T332.heap _
 rw [e332]
 exact ⟨_, rfl, N332, rfl, ix332⟩
theorem rm6_3 (l : Launch) (Z : State) (a0 : Array Value) (hw : own_hw a0 Z) (a1 : Addr) (p2 : Int32) (t : Addr) (k1 : ClassId) (b0 b1 b2 : Int32) (cs0 : Int32) (h0 : Heap) (n0 : Nat) (Z0 : n0 ≤ h0.size) (EX : Exa Z h0 a1 "java/lang/String") (FV : F'1 Z h0 a1 (.ref t)) (VT : Arv Z h0 t k1 .byte (3 : Int32) [(.int b0), (.int b1), (.int b2)] v'0) (O0 : Old Z n0 h0) (SC_ : own_SC Z cs0) (FC : F'0 Z h0 a1 v'0) (k0_ : ¬ p2 < (0 : Int32)) (k1_ : ¬ (255 : Int32) < p2) (kb_ : p2.toInt8.toInt32 = p2) :
  own_M l Z [] own_y15 b'6 2 (some .int) ⟨3, 0, 0, 46⟩ #[(.ref a1), (.int p2)] h0 (QIX (p2 ∈ ([b0, b1, b2] : List Int32)) h0 n0) := by
 obtain ⟨SCS, hcs⟩ := SC_
 refine own_start (n0 := n0) hw "java/lang/String" (L := #[.val (.ref a1), .val (.int p2)]) pn_6 (fun {p e s m below meth c s₁} q hx W hml hZ hown hnm hlk hrt X0 e0 N0 => ?_)
 refine own_aln X0 q d6_0 rfl rfl (own_iln X0 q d6_1 rfl (own_k X0 q d6_2 ?_))
 refine own_cV X0 q hZ e0 hown hml (W 36 rfl) (W 37 rfl) (W 39 rfl) (W 38 rfl) (W 7 rfl) (W 40 rfl) rfl EX (rm7_3 l Z a0 hw a1 p2 t k1 b0 b1 b2 cs0 h0 n0 Z0 EX FV VT O0 ⟨SCS, hcs⟩ FC k0_ k1_ kb_) d6_3 [(.int p2), v'0] [] own_pd6 rfl rfl 0 (Nat.le_refl _) (by decide) (fun v334 T334 L334 X334 hQ334 => ?_)
 obtain ⟨z334, rfl, N334q, e334, ix334⟩ := hQ334
 have N334 := Fr.app N0 N334q
 refine own_nv ?_
 refine own_rI X334 q hrt d6_6 hlk (by decide) ?_
 show QIX (p2 ∈ ([b0, b1, b2] : List Int32)) h0 n0 _ T334.heap _
 rw [e334]
 exact ⟨_, rfl, N334, rfl, ix334⟩
theorem rm5_3 (l : Launch) (Z : State) (a0 : Array Value) (hw : own_hw a0 Z) (a1 : Addr) (t : Addr) (k1 : ClassId) (b0 b1 b2 : Int32) (cs0 : Int32) (h0 : Heap) (n0 : Nat) (Z0 : n0 ≤ h0.size) (EX : Exa Z h0 a1 "java/lang/String") (FV : F'1 Z h0 a1 (.ref t)) (VT : Arv Z h0 t k1 .byte (3 : Int32) [(.int b0), (.int b1), (.int b2)] v'0) (O0 : Old Z n0 h0) (SC_ : own_SC Z cs0) (FC : F'0 Z h0 a1 v'0) :
  own_M l Z [] own_y16 b'5 1 (some .boolean) ⟨4, 0, 0, 59⟩ #[(.ref a1)] h0 (QM ((42 ∈ ([b0, b1, b2] : List Int32)) ∨ (63 ∈ ([b0, b1, b2] : List Int32))) h0 n0) := by
 obtain ⟨SCS, hcs⟩ := SC_
 refine own_start (n0 := n0) hw "com/example/endpoint/endpoint/maven/PathPattern" (L := #[.val (.ref a1)]) pn_5 (fun {p e s m below meth c s₁} q hx W hml hZ hown hnm hlk hrt X0 e0 N0 => ?_)
 refine own_aln X0 q d5_0 rfl rfl (own_k X0 q d5_1 ?_)
 refine own_cV X0 q hZ e0 hown hml (W 31 rfl) (W 32 rfl) (W 34 rfl) (W 33 rfl) (W 7 rfl) (W 35 rfl) rfl EX (rm6_3 l Z a0 hw a1 (42 : Int32) t k1 b0 b1 b2 cs0 h0 n0 Z0 EX FV VT O0 ⟨SCS, hcs⟩ FC (by decide) (by decide) (by decide)) d5_3 [(.int (42 : Int32))] [] own_pd10 rfl rfl 0 (Nat.le_refl _) (by decide) (fun v339 T339 L339 X339 hQ339 => ?_)
 obtain ⟨z339, rfl, N339q, e339, ix339⟩ := hQ339
 have N339 := Fr.app N0 N339q
 refine own_nv ?_
 by_cases hc6_340 : z339 < (0 : Int32)
 ·refine own_zn X339 q d5_6 (((if0 _ _).trans (tlt hc6_340).2.1)) (own_aln X339 q d5_9 rfl rfl (own_k X339 q d5_10 ?_))
  refine own_cV X339 q hZ e339 hown hml (W 31 rfl) (W 32 rfl) (W 34 rfl) (W 33 rfl) (W 7 rfl) (W 35 rfl) rfl EX (rm6_3 l Z a0 hw a1 (63 : Int32) t k1 b0 b1 b2 cs0 h0 n0 Z0 EX FV VT O0 ⟨SCS, hcs⟩ FC (by decide) (by decide) (by decide)) d5_12 [(.int (63 : Int32))] [] own_pd10 rfl rfl 0 (Nat.le_refl _) (by decide) (fun v341 T341 L341 X341 hQ341 => ?_)
  obtain ⟨z341, rfl, N341q, e341, ix341⟩ := hQ341
  have N341 := Fr.app N339 N341q
  refine own_nv ?_
  by_cases hc15_342 : z341 < (0 : Int32)
  ·refine own_zy X341 q d5_15 (((if0 _ _).trans (tlt hc15_342).1)) (own_k X341 q d5_22 ?_)
   refine own_rN X341 q hrt (by simp) d5_23 hlk (by decide) ?_
   show QM ((42 ∈ ([b0, b1, b2] : List Int32)) ∨ (63 ∈ ([b0, b1, b2] : List Int32))) h0 n0 _ T341.heap _
   rw [e341]
   exact ⟨_, rfl, N341, rfl, Or.inr ⟨rfl, fun q => q.elim (ix339.elim (fun r => absurd hc6_340 r.1) (fun r => r.2)) (ix341.elim (fun r => absurd hc15_342 r.1) (fun r => r.2))⟩⟩
  ·refine own_zn X341 q d5_15 (((if0 _ _).trans (flt hc15_342).1)) (own_k X341 q d5_18 (own_gt X341 q d5_19 ?_))
   refine own_rN X341 q hrt (by simp) d5_23 hlk (by decide) ?_
   show QM ((42 ∈ ([b0, b1, b2] : List Int32)) ∨ (63 ∈ ([b0, b1, b2] : List Int32))) h0 n0 _ T341.heap _
   rw [e341]
   exact ⟨_, rfl, N341, rfl, Or.inl ⟨rfl, Or.inr (ix341.elim (fun r => r.2) (fun r => absurd r.1 hc15_342))⟩⟩
 ·refine own_zy X339 q d5_6 (((if0 _ _).trans (flt hc6_340).2.1)) (own_k X339 q d5_18 (own_gt X339 q d5_19 ?_))
  refine own_rN X339 q hrt (by simp) d5_23 hlk (by decide) ?_
  show QM ((42 ∈ ([b0, b1, b2] : List Int32)) ∨ (63 ∈ ([b0, b1, b2] : List Int32))) h0 n0 _ T339.heap _
  rw [e339]
  exact ⟨_, rfl, N339, rfl, Or.inl ⟨rfl, Or.inl (ix339.elim (fun r => r.2) (fun r => absurd r.1 hc6_340))⟩⟩
theorem rm9_4 (l : Launch) (Z : State) (a0 : Array Value) (hw : own_hw a0 Z) (a1 : Addr) (t : Addr) (k1 : ClassId) (b0 b1 b2 b3 : Int32) (cs0 : Int32) (h0 : Heap) (n0 : Nat) (Z0 : n0 ≤ h0.size) (EX : Exa Z h0 a1 "java/lang/String") (FV : F'1 Z h0 a1 (.ref t)) (VT : Arv Z h0 t k1 .byte (4 : Int32) [(.int b0), (.int b1), (.int b2), (.int b3)] v'0) (O0 : Old Z n0 h0) (SC_ : own_SC Z cs0) (FC : F'0 Z h0 a1 v'0) :
  own_M l Z [] own_y12 b'9 1 (some .int) ⟨1, 0, 0, 13⟩ #[(.ref a1)] h0 (QI (4 : Int32) h0 n0) := by
 obtain ⟨SCS, hcs⟩ := SC_
 refine own_start (n0 := n0) hw "java/lang/String" (L := #[.val (.ref a1)]) pn_9 (fun {p e s m below meth c s₁} q hx W hml hZ hown hnm hlk hrt X0 e0 N0 => ?_)
 refine own_aln X0 q d9_0 rfl rfl ?_
 refine own_gF X0 q hZ e0 hown (W 25 rfl) FV d9_1 fun T345 X345 e345 => ?_
 refine own_alen (n := (4 : Int32)) X345 q hZ e345 VT d9_4 (own_aln X345 q d9_5 rfl rfl ?_)
 refine own_cV X345 q hZ e345 hown hml (W 52 rfl) (W 53 rfl) (W 55 rfl) (W 54 rfl) (W 7 rfl) (W 56 rfl) rfl EX (rm10 l Z a0 hw a1 cs0 h0 n0 Z0 O0 ⟨SCS, hcs⟩ FC) d9_6 [] [v'4] own_pd4 rfl rfl 1 (Nat.le_refl _) (by decide) (fun v346 T346 L346 X346 hQ346 => ?_)
 obtain ⟨rfl, N346q, e346⟩ := hQ346
 have N346 := Fr.app N0 N346q
 refine own_nv (own_stp 10 (fun _ k => XS.ishr X346.here hx rfl (q.d d9_9) rfl k) ?_)
 rw [show ((4 : Int32) >>> ((0 : Int32) &&& 31)) = (4 : Int32) from by decide]
 refine own_rI X346 q hrt d9_10 hlk (by decide) ?_
 show QI (4 : Int32) h0 n0 _ T346.heap _
 rw [e346]
 exact ⟨rfl, N346, rfl⟩
theorem rm19_4 (l : Launch) (Z : State) (a0 : Array Value) (hw : own_hw a0 Z) (a1 : Addr) (p2 : Int32) (k1 : ClassId) (b0 b1 b2 b3 : Int32) (h0 : Heap) (n0 : Nat) (Z0 : n0 ≤ h0.size) (VT : Arv Z h0 a1 k1 .byte (4 : Int32) [(.int b0), (.int b1), (.int b2), (.int b3)] v'0) (k0_ : ¬ p2 < (0 : Int32)) (k1_ : ¬ (255 : Int32) < p2) (kb_ : p2.toInt8.toInt32 = p2) :
  own_M l Z [] own_y17 b'19 6 (some .int) ⟨0, 0, 0, 0⟩ #[(.ref a1), (.int p2), v'0, v'4] h0 (QIX (p2 ∈ ([b0, b1, b2, b3] : List Int32)) h0 n0) := by
 refine own_start (n0 := n0) hw "java/lang/StringLatin1" (L := #[.val (.ref a1), .val (.int p2), .val v'0, .val v'4, .unset, .unset]) pn_19 (fun {p e s m below meth c s₁} q hx W hml hZ hown hnm hlk hrt X0 e0 N0 => ?_)
 have hby := q.2
 refine own_iln X0 q d19_0 rfl (own_stp 2 (fun _ k => XS.i2b X0.here hx rfl (q.d d19_1) rfl k) ?_)
 rw [kb_]
 show own_Fin _ _ _ _ (s₁.setTop (mkF m 2 #[.val (.ref a1), .val (.int p2), .val v'0, .val v'4, .unset, .unset] [(.int p2)]))
 refine own_is X0 q d19_2 (l' := #[.val (.ref a1), .val (.int p2), .val v'0, .val v'4, .val (.int p2), .unset]) rfl (own_iln X0 q d19_4 rfl (own_is X0 q d19_5 (l' := #[.val (.ref a1), .val (.int p2), .val v'0, .val v'4, .val (.int p2), .val v'0]) rfl (own_il X0 q d19_7 rfl (own_iln X0 q d19_9 rfl (own_cn X0 q d19_10 ((tlt ((by decide) : (0 : Int32) < (4 : Int32))).2.1) (own_aln X0 q d19_13 rfl rfl (own_il X0 q d19_14 rfl (own_bld (v := (.int b0)) X0 q hZ e0 VT d19_16 (by decide) rfl (own_il X0 q d19_17 rfl ?_)))))))))
 by_cases hc19_351 : b0 = p2
 ·refine own_cn X0 q d19_19 ((teq hc19_351).2) (own_il X0 q d19_22 rfl ?_)
  refine own_rI X0 q hrt d19_24 hlk (by decide) ?_
  show QIX (p2 ∈ ([b0, b1, b2, b3] : List Int32)) h0 n0 _ s₁.heap _
  rw [e0]
  exact ⟨_, rfl, N0, rfl, Or.inl ⟨by decide, by simp [hc19_351]⟩⟩
 ·refine own_cy X0 q d19_19 ((feq hc19_351).2) (own_iik X0 q d19_25 rfl (show ((0 : Int32) + (1 : Int32)) = (1 : Int32) by decide) (l' := #[.val (.ref a1), .val (.int p2), .val v'0, .val v'4, .val (.int p2), .val v'1]) rfl (own_gt X0 q d19_28 (own_il X0 q d19_7 rfl (own_iln X0 q d19_9 rfl (own_cn X0 q d19_10 ((tlt ((by decide) : (1 : Int32) < (4 : Int32))).2.1) (own_aln X0 q d19_13 rfl rfl (own_il X0 q d19_14 rfl (own_bld (v := (.int b1)) X0 q hZ e0 VT d19_16 (by decide) rfl (own_il X0 q d19_17 rfl ?_)))))))))
  by_cases hc19_352 : b1 = p2
  ·refine own_cn X0 q d19_19 ((teq hc19_352).2) (own_il X0 q d19_22 rfl ?_)
   refine own_rI X0 q hrt d19_24 hlk (by decide) ?_
   show QIX (p2 ∈ ([b0, b1, b2, b3] : List Int32)) h0 n0 _ s₁.heap _
   rw [e0]
   exact ⟨_, rfl, N0, rfl, Or.inl ⟨by decide, by simp [hc19_352]⟩⟩
  ·refine own_cy X0 q d19_19 ((feq hc19_352).2) (own_iik X0 q d19_25 rfl (show ((1 : Int32) + (1 : Int32)) = (2 : Int32) by decide) (l' := #[.val (.ref a1), .val (.int p2), .val v'0, .val v'4, .val (.int p2), .val v'2]) rfl (own_gt X0 q d19_28 (own_il X0 q d19_7 rfl (own_iln X0 q d19_9 rfl (own_cn X0 q d19_10 ((tlt ((by decide) : (2 : Int32) < (4 : Int32))).2.1) (own_aln X0 q d19_13 rfl rfl (own_il X0 q d19_14 rfl (own_bld (v := (.int b2)) X0 q hZ e0 VT d19_16 (by decide) rfl (own_il X0 q d19_17 rfl ?_)))))))))
   by_cases hc19_353 : b2 = p2
   ·refine own_cn X0 q d19_19 ((teq hc19_353).2) (own_il X0 q d19_22 rfl ?_)
    refine own_rI X0 q hrt d19_24 hlk (by decide) ?_
    show QIX (p2 ∈ ([b0, b1, b2, b3] : List Int32)) h0 n0 _ s₁.heap _
    rw [e0]
    exact ⟨_, rfl, N0, rfl, Or.inl ⟨by decide, by simp [hc19_353]⟩⟩
   ·refine own_cy X0 q d19_19 ((feq hc19_353).2) (own_iik X0 q d19_25 rfl (show ((2 : Int32) + (1 : Int32)) = (3 : Int32) by decide) (l' := #[.val (.ref a1), .val (.int p2), .val v'0, .val v'4, .val (.int p2), .val v'3]) rfl (own_gt X0 q d19_28 (own_il X0 q d19_7 rfl (own_iln X0 q d19_9 rfl (own_cn X0 q d19_10 ((tlt ((by decide) : (3 : Int32) < (4 : Int32))).2.1) (own_aln X0 q d19_13 rfl rfl (own_il X0 q d19_14 rfl (own_bld (v := (.int b3)) X0 q hZ e0 VT d19_16 (by decide) rfl (own_il X0 q d19_17 rfl ?_)))))))))
    by_cases hc19_354 : b3 = p2
    ·refine own_cn X0 q d19_19 ((teq hc19_354).2) (own_il X0 q d19_22 rfl ?_)
     refine own_rI X0 q hrt d19_24 hlk (by decide) ?_
     show QIX (p2 ∈ ([b0, b1, b2, b3] : List Int32)) h0 n0 _ s₁.heap _
     rw [e0]
     exact ⟨_, rfl, N0, rfl, Or.inl ⟨by decide, by simp [hc19_354]⟩⟩
    ·refine own_cy X0 q d19_19 ((feq hc19_354).2) (own_iik X0 q d19_25 rfl (show ((3 : Int32) + (1 : Int32)) = (4 : Int32) by decide) (l' := #[.val (.ref a1), .val (.int p2), .val v'0, .val v'4, .val (.int p2), .val v'4]) rfl (own_gt X0 q d19_28 (own_il X0 q d19_7 rfl (own_iln X0 q d19_9 rfl (own_cy X0 q d19_10 ((flt (Int32.lt_irrefl : ¬ ((4 : Int32) < (4 : Int32)))).2.1) (own_k X0 q d19_31 ?_))))))
     refine own_rI X0 q hrt d19_32 hlk (by decide) ?_
     show QIX (p2 ∈ ([b0, b1, b2, b3] : List Int32)) h0 n0 _ s₁.heap _
     rw [e0]
     exact ⟨_, rfl, N0, rfl, Or.inr ⟨by decide, by simp [Ne.symm hc19_351, Ne.symm hc19_352, Ne.symm hc19_353, Ne.symm hc19_354]⟩⟩
theorem rm11_4 (l : Launch) (Z : State) (a0 : Array Value) (hw : own_hw a0 Z) (a1 : Addr) (p2 : Int32) (k1 : ClassId) (b0 b1 b2 b3 : Int32) (h0 : Heap) (n0 : Nat) (Z0 : n0 ≤ h0.size) (VT : Arv Z h0 a1 k1 .byte (4 : Int32) [(.int b0), (.int b1), (.int b2), (.int b3)] v'0) (k0_ : ¬ p2 < (0 : Int32)) (k1_ : ¬ (255 : Int32) < p2) (kb_ : p2.toInt8.toInt32 = p2) :
  own_M l Z [] own_y13 b'11 4 (some .int) ⟨1, 0, 0, 17⟩ #[(.ref a1), (.int p2), v'0, v'4] h0 (QIX (p2 ∈ ([b0, b1, b2, b3] : List Int32)) h0 n0) := by
 refine own_start (n0 := n0) hw "java/lang/StringLatin1" (L := #[.val (.ref a1), .val (.int p2), .val v'0, .val v'4]) pn_11 (fun {p e s m below meth c s₁} q hx W hml hZ hown hnm hlk hrt X0 e0 N0 => ?_)
 refine own_iln X0 q d11_0 rfl ?_
 refine own_cS X0 q hZ e0 hown hml (W 61 rfl) (W 62 rfl) (W 59 rfl) (W 63 rfl) (rm12 l Z a0 hw p2 h0 n0 Z0 k0_ k1_) d11_1 [(.int p2)] [] own_pd5 rfl rfl 0 (Nat.le_refl _) (by decide) (fun v359 T359 L359 X359 hQ359 => ?_)
 obtain ⟨rfl, N359q, e359⟩ := hQ359
 have N359 := Fr.app N0 N359q
 refine own_nv (own_zy X359 q d11_4 (((if0 _ _).trans (feq ((by decide) : ¬ ((1 : Int32) = (0 : Int32)))).2)) (own_iln X359 q d11_9 rfl (own_k X359 q d11_10 ?_)))
 refine own_cS X359 q hZ e359 hown hml (W 64 rfl) (W 65 rfl) (W 66 rfl) (W 67 rfl) (rm13 l Z a0 hw (0 : Int32) (0 : Int32) (0 : Int32) h0 n0 Z0 (by decide)) d11_11 [v'0, v'0] [] own_pd6 rfl rfl 0 (Nat.le_refl _) (by decide) (fun v360 T360 L360 X360 hQ360 => ?_)
 obtain ⟨rfl, N360q, e360⟩ := hQ360
 have N360 := Fr.app N359 N360q
 refine own_nv (own_isn X360 q d11_14 (l' := #[.val (.ref a1), .val (.int p2), .val v'0, .val v'4]) rfl (own_iln X360 q d11_15 rfl (own_aln X360 q d11_16 rfl rfl (own_alen (n := (4 : Int32)) X360 q hZ e360 VT d11_17 ?_))))
 refine own_cS X360 q hZ e360 hown hml (W 68 rfl) (W 69 rfl) (W 66 rfl) (W 70 rfl) (rm14 l Z a0 hw (4 : Int32) (4 : Int32) (4 : Int32) h0 n0 Z0 (by decide)) d11_18 [v'4, v'4] [] own_pd6 rfl rfl 0 (Nat.le_refl _) (by decide) (fun v361 T361 L361 X361 hQ361 => ?_)
 obtain ⟨rfl, N361q, e361⟩ := hQ361
 have N361 := Fr.app N360 N361q
 refine own_nv (own_isn X361 q d11_21 (l' := #[.val (.ref a1), .val (.int p2), .val v'0, .val v'4]) rfl (own_iln X361 q d11_22 rfl (own_iln X361 q d11_23 rfl (own_cy X361 q d11_24 ((tlt ((by decide) : (0 : Int32) < (4 : Int32))).1) (own_aln X361 q d11_29 rfl rfl (own_iln X361 q d11_30 rfl (own_iln X361 q d11_31 rfl (own_iln X361 q d11_32 rfl ?_))))))))
 refine own_cS X361 q hZ e361 hown hml (W 84 rfl) (W 85 rfl) (W 59 rfl) (W 86 rfl) (rm19_4 l Z a0 hw a1 p2 k1 b0 b1 b2 b3 h0 n0 Z0 VT k0_ k1_ kb_) d11_33 [(.ref a1), (.int p2), v'0, v'4] [] own_pd9 rfl rfl 0 (Nat.le_refl _) (by decide) (fun v362 T362 L362 X362 hQ362 => ?_)
 obtain ⟨z362, rfl, N362q, e362, ix362⟩ := hQ362
 have N362 := Fr.app N361 N362q
 refine own_nv ?_
 refine own_rI X362 q hrt d11_36 hlk (by decide) ?_
 show QIX (p2 ∈ ([b0, b1, b2, b3] : List Int32)) h0 n0 _ T362.heap _
 rw [e362]
 exact ⟨_, rfl, N362, rfl, ix362⟩
theorem rm7_4 (l : Launch) (Z : State) (a0 : Array Value) (hw : own_hw a0 Z) (a1 : Addr) (p2 : Int32) (t : Addr) (k1 : ClassId) (b0 b1 b2 b3 : Int32) (cs0 : Int32) (h0 : Heap) (n0 : Nat) (Z0 : n0 ≤ h0.size) (EX : Exa Z h0 a1 "java/lang/String") (FV : F'1 Z h0 a1 (.ref t)) (VT : Arv Z h0 t k1 .byte (4 : Int32) [(.int b0), (.int b1), (.int b2), (.int b3)] v'0) (O0 : Old Z n0 h0) (SC_ : own_SC Z cs0) (FC : F'0 Z h0 a1 v'0) (k0_ : ¬ p2 < (0 : Int32)) (k1_ : ¬ (255 : Int32) < p2) (kb_ : p2.toInt8.toInt32 = p2) :
  own_M l Z [] own_y14 b'7 3 (some .int) ⟨2, 0, 0, 32⟩ #[(.ref a1), (.int p2), v'0] h0 (QIX (p2 ∈ ([b0, b1, b2, b3] : List Int32)) h0 n0) := by
 obtain ⟨SCS, hcs⟩ := SC_
 refine own_start (n0 := n0) hw "java/lang/String" (L := #[.val (.ref a1), .val (.int p2), .val v'0]) pn_7 (fun {p e s m below meth c s₁} q hx W hml hZ hown hnm hlk hrt X0 e0 N0 => ?_)
 refine own_aln X0 q d7_0 rfl rfl ?_
 refine own_cV X0 q hZ e0 hown hml (W 41 rfl) (W 42 rfl) (W 44 rfl) (W 43 rfl) (W 7 rfl) (W 45 rfl) rfl EX (rm8 l Z a0 hw a1 cs0 h0 n0 Z0 O0 ⟨SCS, hcs⟩ FC) d7_1 [] [] own_pd7 rfl rfl 0 (Nat.le_refl _) (by decide) (fun v367 T367 L367 X367 hQ367 => ?_)
 obtain ⟨rfl, N367q, e367⟩ := hQ367
 have N367 := Fr.app N0 N367q
 refine own_nv (own_zn X367 q d7_4 (((if0 _ _).trans (feq ((by decide) : ¬ ((1 : Int32) = (0 : Int32)))).1)) (own_aln X367 q d7_7 rfl rfl ?_))
 refine own_gF X367 q hZ e367 hown (W 25 rfl) FV d7_8 fun T368 X368 e368 => ?_
 refine own_iln X368 q d7_11 rfl (own_iln X368 q d7_12 rfl (own_aln X368 q d7_13 rfl rfl ?_))
 refine own_cV X368 q hZ e368 hown hml (W 47 rfl) (W 48 rfl) (W 50 rfl) (W 49 rfl) (W 7 rfl) (W 51 rfl) rfl EX (rm9_4 l Z a0 hw a1 t k1 b0 b1 b2 b3 cs0 h0 n0 Z0 EX FV VT O0 ⟨SCS, hcs⟩ FC) d7_14 [] [v'0, (.int p2), (.ref t)] own_pd8 rfl rfl 3 (Nat.le_refl _) (by decide) (fun v369 T369 L369 X369 hQ369 => ?_)
 obtain ⟨rfl, N369q, e369⟩ := hQ369
 have N369 := Fr.app N367 N369q
 refine own_nv ?_
 refine own_cS X369 q hZ e369 hown hml (W 57 rfl) (W 58 rfl) (W 59 rfl) (W 60 rfl) (rm11_4 l Z a0 hw t p2 k1 b0 b1 b2 b3 h0 n0 Z0 VT k0_ k1_ kb_) d7_17 [(.ref t), (.int p2), v'0, v'4] [] own_pd9 rfl rfl 0 (Nat.le_refl _) (by decide) (fun v370 T370 L370 X370 hQ370 => ?_)
 obtain ⟨z370, rfl, N370q, e370, ix370⟩ := hQ370
 have N370 := Fr.app N369 N370q
 refine own_nv (own_gt X370 q d7_20 ?_)
 refine own_rI X370 q hrt d7_36 hlk (by decide) ?_
 show QIX (p2 ∈ ([b0, b1, b2, b3] : List Int32)) h0 n0 _ T370.heap _
 rw [e370]
 exact ⟨_, rfl, N370, rfl, ix370⟩
theorem rm6_4 (l : Launch) (Z : State) (a0 : Array Value) (hw : own_hw a0 Z) (a1 : Addr) (p2 : Int32) (t : Addr) (k1 : ClassId) (b0 b1 b2 b3 : Int32) (cs0 : Int32) (h0 : Heap) (n0 : Nat) (Z0 : n0 ≤ h0.size) (EX : Exa Z h0 a1 "java/lang/String") (FV : F'1 Z h0 a1 (.ref t)) (VT : Arv Z h0 t k1 .byte (4 : Int32) [(.int b0), (.int b1), (.int b2), (.int b3)] v'0) (O0 : Old Z n0 h0) (SC_ : own_SC Z cs0) (FC : F'0 Z h0 a1 v'0) (k0_ : ¬ p2 < (0 : Int32)) (k1_ : ¬ (255 : Int32) < p2) (kb_ : p2.toInt8.toInt32 = p2) :
  own_M l Z [] own_y15 b'6 2 (some .int) ⟨3, 0, 0, 46⟩ #[(.ref a1), (.int p2)] h0 (QIX (p2 ∈ ([b0, b1, b2, b3] : List Int32)) h0 n0) := by
 obtain ⟨SCS, hcs⟩ := SC_
 refine own_start (n0 := n0) hw "java/lang/String" (L := #[.val (.ref a1), .val (.int p2)]) pn_6 (fun {p e s m below meth c s₁} q hx W hml hZ hown hnm hlk hrt X0 e0 N0 => ?_)
 refine own_aln X0 q d6_0 rfl rfl (own_iln X0 q d6_1 rfl (own_k X0 q d6_2 ?_))
 refine own_cV X0 q hZ e0 hown hml (W 36 rfl) (W 37 rfl) (W 39 rfl) (W 38 rfl) (W 7 rfl) (W 40 rfl) rfl EX (rm7_4 l Z a0 hw a1 p2 t k1 b0 b1 b2 b3 cs0 h0 n0 Z0 EX FV VT O0 ⟨SCS, hcs⟩ FC k0_ k1_ kb_) d6_3 [(.int p2), v'0] [] own_pd6 rfl rfl 0 (Nat.le_refl _) (by decide) (fun v372 T372 L372 X372 hQ372 => ?_)
 obtain ⟨z372, rfl, N372q, e372, ix372⟩ := hQ372
 have N372 := Fr.app N0 N372q
 refine own_nv ?_
 refine own_rI X372 q hrt d6_6 hlk (by decide) ?_
 show QIX (p2 ∈ ([b0, b1, b2, b3] : List Int32)) h0 n0 _ T372.heap _
 rw [e372]
 exact ⟨_, rfl, N372, rfl, ix372⟩
theorem rm5_4 (l : Launch) (Z : State) (a0 : Array Value) (hw : own_hw a0 Z) (a1 : Addr) (t : Addr) (k1 : ClassId) (b0 b1 b2 b3 : Int32) (cs0 : Int32) (h0 : Heap) (n0 : Nat) (Z0 : n0 ≤ h0.size) (EX : Exa Z h0 a1 "java/lang/String") (FV : F'1 Z h0 a1 (.ref t)) (VT : Arv Z h0 t k1 .byte (4 : Int32) [(.int b0), (.int b1), (.int b2), (.int b3)] v'0) (O0 : Old Z n0 h0) (SC_ : own_SC Z cs0) (FC : F'0 Z h0 a1 v'0) :
  own_M l Z [] own_y16 b'5 1 (some .boolean) ⟨4, 0, 0, 59⟩ #[(.ref a1)] h0 (QM ((42 ∈ ([b0, b1, b2, b3] : List Int32)) ∨ (63 ∈ ([b0, b1, b2, b3] : List Int32))) h0 n0) := by
 obtain ⟨SCS, hcs⟩ := SC_
 refine own_start (n0 := n0) hw "com/example/endpoint/endpoint/maven/PathPattern" (L := #[.val (.ref a1)]) pn_5 (fun {p e s m below meth c s₁} q hx W hml hZ hown hnm hlk hrt X0 e0 N0 => ?_)
 refine own_aln X0 q d5_0 rfl rfl (own_k X0 q d5_1 ?_)
 refine own_cV X0 q hZ e0 hown hml (W 31 rfl) (W 32 rfl) (W 34 rfl) (W 33 rfl) (W 7 rfl) (W 35 rfl) rfl EX (rm6_4 l Z a0 hw a1 (42 : Int32) t k1 b0 b1 b2 b3 cs0 h0 n0 Z0 EX FV VT O0 ⟨SCS, hcs⟩ FC (by decide) (by decide) (by decide)) d5_3 [(.int (42 : Int32))] [] own_pd10 rfl rfl 0 (Nat.le_refl _) (by decide) (fun v377 T377 L377 X377 hQ377 => ?_)
 obtain ⟨z377, rfl, N377q, e377, ix377⟩ := hQ377
 have N377 := Fr.app N0 N377q
 refine own_nv ?_
 by_cases hc6_378 : z377 < (0 : Int32)
 ·refine own_zn X377 q d5_6 (((if0 _ _).trans (tlt hc6_378).2.1)) (own_aln X377 q d5_9 rfl rfl (own_k X377 q d5_10 ?_))
  refine own_cV X377 q hZ e377 hown hml (W 31 rfl) (W 32 rfl) (W 34 rfl) (W 33 rfl) (W 7 rfl) (W 35 rfl) rfl EX (rm6_4 l Z a0 hw a1 (63 : Int32) t k1 b0 b1 b2 b3 cs0 h0 n0 Z0 EX FV VT O0 ⟨SCS, hcs⟩ FC (by decide) (by decide) (by decide)) d5_12 [(.int (63 : Int32))] [] own_pd10 rfl rfl 0 (Nat.le_refl _) (by decide) (fun v379 T379 L379 X379 hQ379 => ?_)
  obtain ⟨z379, rfl, N379q, e379, ix379⟩ := hQ379
  have N379 := Fr.app N377 N379q
  refine own_nv ?_
  by_cases hc15_380 : z379 < (0 : Int32)
  ·refine own_zy X379 q d5_15 (((if0 _ _).trans (tlt hc15_380).1)) (own_k X379 q d5_22 ?_)
   refine own_rN X379 q hrt (by simp) d5_23 hlk (by decide) ?_
   show QM ((42 ∈ ([b0, b1, b2, b3] : List Int32)) ∨ (63 ∈ ([b0, b1, b2, b3] : List Int32))) h0 n0 _ T379.heap _
   rw [e379]
   exact ⟨_, rfl, N379, rfl, Or.inr ⟨rfl, fun q => q.elim (ix377.elim (fun r => absurd hc6_378 r.1) (fun r => r.2)) (ix379.elim (fun r => absurd hc15_380 r.1) (fun r => r.2))⟩⟩
  ·refine own_zn X379 q d5_15 (((if0 _ _).trans (flt hc15_380).1)) (own_k X379 q d5_18 (own_gt X379 q d5_19 ?_))
   refine own_rN X379 q hrt (by simp) d5_23 hlk (by decide) ?_
   show QM ((42 ∈ ([b0, b1, b2, b3] : List Int32)) ∨ (63 ∈ ([b0, b1, b2, b3] : List Int32))) h0 n0 _ T379.heap _
   rw [e379]
   exact ⟨_, rfl, N379, rfl, Or.inl ⟨rfl, Or.inr (ix379.elim (fun r => r.2) (fun r => absurd r.1 hc15_380))⟩⟩
 ·refine own_zy X377 q d5_6 (((if0 _ _).trans (flt hc6_378).2.1)) (own_k X377 q d5_18 (own_gt X377 q d5_19 ?_))
  refine own_rN X377 q hrt (by simp) d5_23 hlk (by decide) ?_
  show QM ((42 ∈ ([b0, b1, b2, b3] : List Int32)) ∨ (63 ∈ ([b0, b1, b2, b3] : List Int32))) h0 n0 _ T377.heap _
  rw [e377]
  exact ⟨_, rfl, N377, rfl, Or.inl ⟨rfl, Or.inl (ix377.elim (fun r => r.2) (fun r => absurd r.1 hc6_378))⟩⟩
theorem rm3_0 (l : Launch) (Z : State) (a0 : Array Value) (hw : ∀ d ∈ tables_1, d.before a0 Z = true) (ws : List Jvm.Cond) (a1 : Addr) (a2 : Addr) (k1 : ClassId) (h0 : Heap) (n0 : Nat) (Z0 : n0 ≤ h0.size) (E1 : Exa Z h0 a1 "java/lang/String") (FV : F'1 Z h0 a1 .null) (FC : F'0 Z h0 a1 v'0) (VA : Arv Z h0 a2 k1 .char (0 : Int32) [] v'0) (g1 : n0 ≤ a1) (n12 : a1 ≠ a2) (hEL : EW Z a0 ([("java/lang/String", 7)] : List (String × Nat))) :
  MetFree l (⟨"java/lang/String", "<init>", "([CIILjava/lang/Void;)V"⟩ : MethodName) (head1 (Jvm.Cond.code (⟨"java/lang/String", "<init>", "([CIILjava/lang/Void;)V"⟩ : MethodName) b'3 6 none :: ws) ({ frames := 1, cells := 2, slots := 4, locals := 12 } : Room)) (fun a U => a = #[(.ref a1), (.ref a2), v'0, v'0, .null] ∧ Z.Warmed39 U.vm ∧ U.heap = h0 ∧ CHv Z ([("java/lang/String", 7)] : List (String × Nat)) U.vm h0) (fun _ _ _ _ _ => True) (fun _ U o U' => ∃ v L, o = .returned v ∧ QI0 Z a1 h0 n0 v U'.heap L ∧ ReturnedEndW U o U' L ({ frames := 1, cells := 2, slots := 4, locals := 12 } : Room).cells ({ frames := 1, cells := 2, slots := 4, locals := 12 } : Room).slots) := by
 refine MetFree.of_bodySF pn_3 hisR ?_
 intro p e s m args below meth c s₁ Bd hml0 hP hK
 obtain ⟨rfl, hZ, hh, hCH⟩ := hP
 have hx := Bd.exec
 have hby := Bd.bytes
 have q : own_q p c b'3 := ⟨hx, hby⟩
 have W := @own_w _ _ hw
 have hml : c.maxLocals = 6 := hml0
 have hown : s.vm.findClass "java/lang/String" = some m.cls := findClass_of_methodNamed Bd.named
 have hnm := (name_of_methodNamed Bd.named Bd.method).1
 have hlk : meth.locks = false := BodyLoose.notSynchronized Bd
 have X0 : Stand p l e ({ frames := 1, cells := 2, slots := 4, locals := 12 } : Room) s m #[(.ref a1), (.ref a2), v'0, v'0, .null] below meth c s₁ [] 0 0 := Stand.of_body Bd
 have e0 : s₁.heap = h0 := by rw [← hh, Bd.state]; rfl
 have N0 := Fr.nil n0
 show own_Fin p e below (own_PW (QI0 Z a1 h0 n0) s ({ frames := 1, cells := 2, slots := 4, locals := 12 } : Room).cells ({ frames := 1, cells := 2, slots := 4, locals := 12 } : Room).slots) (s₁.setTop (entryFrame m #[(.ref a1), (.ref a2), v'0, v'0, .null] 6))
 rw [show entryFrame m #[(.ref a1), (.ref a2), v'0, v'0, .null] 6 = mkF m 0 #[.val (.ref a1), .val (.ref a2), .val v'0, .val v'0, .val .null, .unset] [] from by first | (simp [entryFrame, mkF, argsToLocals, Value.category]; done) | rfl]
 have X0 : Stand p l e ({ frames := 1, cells := 2, slots := 4, locals := 12 } : Room) (s.setVm s.vm) m #[(.ref a1), (.ref a2), v'0, v'0, .null] below meth c s₁ [] 0 0 := X0
 have hZ : Z.Warmed39 (s.setVm s.vm).vm := hZ
 have hown : (s.setVm s.vm).vm.findClass "java/lang/String" = some m.cls := hown
 have hS0 : s.Since s.vm 0 := (State.WarmedH.refl s).since 0
 have hk0 : 0 ≤ h0.size := Nat.zero_le _
 have hCH : CHv Z ([("java/lang/String", 7)] : List (String × Nat)) s.vm h0 := hCH
 have hstr : ∀ a ∈ Bundle.stringAtoms, a.before a0 Z = true := fun d hd => hw d ((by decide +kernel : ∀ d ∈ Bundle.stringAtoms, d ∈ tables_1) d hd)
 have kp0 := Keep.refl h0 [a1]
 refine own_aln X0 q d3_0 rfl rfl ?_
 refine own_let ?_; intro g393_
 obtain ⟨T394, X394, e394, st394⟩ := initO X0 hx hZ hown (W 16 rfl) (W 17 rfl) (W 18 rfl) e0 (g := g393_) rfl (by rw [hml]; rfl) rfl (q.d d3_1) (by decide) (W := 0) (by show 2 * 0 + _ ≤ _; exact Nat.le_of_eq rfl) (by decide)
 refine own_stp 4 st394 (own_iln X394 q d3_4 rfl (own_zn X394 q d3_5 (((if0 _ _).trans (teq (rfl : (0 : Int32) = (0 : Int32))).2)) (own_aln X394 q d3_8 rfl rfl ?_)))
 obtain ⟨a395, T395, h395, kk395, b395, k395, X395, e395, E395, hS395, hk395, hZ, hown, Ex395, Fc395, Fv395, V395, lt395, lb395, -, Lt395, -, st395⟩ := ldcCH X394 hx hZ hown (W 19 rfl) hstr e394 hS0 hk0 hEL (by simp) hCH (vs := []) (z := 0) ⟨by simp, rfl⟩ (by decide) rfl (g := (mkF m 9 #[.val (.ref a1), .val (.ref a2), .val v'0, .val v'0, .val .null, .unset] [(.ref a1)])) rfl (q.d d3_9) (n := 0) (by decide) (by decide) (by decide) (by decide)
 have zs396 := Nat.le_trans Z0 E395.1
 have hk396 := Nat.le_trans hk0 E395.1
 have kp396 := kp0.ext E395
 have ne_a1_a395 : a1 ≠ a395 := Fld.ne (FV.ext E395) Fv395 (fun q => nomatch q)
 have ne_a1_b395 : a1 ≠ b395 := Exa.neArv (E1.ext E395) V395 (W 6 rfl)
 refine own_stp 11 st395 ?_
 refine own_gF X395 q hZ e395 hown (W 25 rfl) Fv395 d3_11 fun T397 X397 e397 => ?_
 refine own_let ?_; intro g398_
 obtain ⟨T399, h399, X399, e399, W399, st399⟩ := putF X397 hx hZ hown (host := "") (Or.inl (W 25 rfl)) Via.refl e397 (FV.ext E395) (E1.ext E395) (Or.inr ⟨(W 21 rfl), rfl, hnm⟩) (W 6 rfl) (ty := (.array .byte)) (by decide) rfl rfl (g := g398_) rfl rfl (q.d d3_14)
 have zs400 := Nat.le_trans zs396 (Keep.of_wr W399).1
 have hk400 := Nat.le_trans hk395 (Keep.of_wr W399).1
 have kp400 := kp396.wr W399 (own_i0)
 have Fw399 := ((FV.ext E395)).same W399
 have N399 := Fr.snoc X399 N0 g1
 refine own_stp 17 st399 (own_aln X399 q d3_17 rfl rfl (own_stp 20 (fun _ k => ldcAgain X399 hx hZ hown (W 19 rfl) Lt395 (g := (mkF m 18 #[.val (.ref a1), .val (.ref a2), .val v'0, .val v'0, .val .null, .unset] [(.ref a1)])) rfl (q.d d3_18) _ k) ?_))
 refine own_gF X399 q hZ e399 hown (W 26 rfl) (Fc395.other W399 (Or.inl (Ne.symm ne_a1_a395))) d3_20 fun T401 X401 e401 => ?_
 refine own_let ?_; intro g402_
 obtain ⟨T403, h403, X403, e403, W403, st403⟩ := putFN X401 hx hZ hown (W 26 rfl) Via.refl e401 ((FC.ext E395).other W399 (Or.inr (slot_ne (Or.inr (W 22 rfl)) (Or.inr (W 21 rfl)) (by decide) (t := .byte) (t' := (.array .byte)) (by decide) (by decide)))) ((E1.ext E395).wr W399) (Or.inr ⟨(W 22 rfl), rfl, hnm⟩) (W 6 rfl) (ty := .byte) (v' := v'0) (by decide) rfl rfl (g := g402_) rfl rfl (q.d d3_23)
 have zs404 := Nat.le_trans zs400 (Keep.of_wr W403).1
 have hk404 := Nat.le_trans hk400 (Keep.of_wr W403).1
 have kp404 := kp400.wr W403 (own_i0)
 have Fw403 := (((FC.ext E395).other W399 (Or.inr (slot_ne (Or.inr (W 22 rfl)) (Or.inr (W 21 rfl)) (by decide) (t := .byte) (t' := (.array .byte)) (by decide) (by decide))))).same W403
 have N403 := Fr.snoc X403 N399 g1
 refine own_stp 26 st403 ?_
 refine own_retVW X403 hS395 (by rw [e403]; exact hk404) hx Bd.returns (q.d d3_26) hlk ?_ (by decide) (by decide)
 show QI0 Z a1 h0 n0 _ T403.heap _
 rw [e403]
 exact ⟨_, _, rfl, N403, kp404, (Fw399.other W403 (Or.inr (slot_ne (Or.inr (W 21 rfl)) (Or.inr (W 22 rfl)) (by decide) (t := (.array .byte)) (t' := .byte) (by decide) (by decide)))), Fw403, ((V395.other W399 (Ne.symm ne_a1_b395)).other W403 (Ne.symm ne_a1_b395))⟩
theorem rm2_0 (l : Launch) (Z : State) (a0 : Array Value) (hw : ∀ d ∈ tables_1, d.before a0 Z = true) (ws : List Jvm.Cond) (a1 : Addr) (a2 : Addr) (k1 : ClassId) (h0 : Heap) (n0 : Nat) (Z0 : n0 ≤ h0.size) (E1 : Exa Z h0 a1 "java/lang/String") (FV : F'1 Z h0 a1 .null) (FC : F'0 Z h0 a1 v'0) (VA : Arv Z h0 a2 k1 .char (0 : Int32) [] v'0) (g1 : n0 ≤ a1) (n12 : a1 ≠ a2) (hEL : EW Z a0 ([("java/lang/String", 7)] : List (String × Nat))) :
  MetFree l (⟨"java/lang/String", "<init>", "([C)V"⟩ : MethodName) (head1 (Jvm.Cond.code (⟨"java/lang/String", "<init>", "([C)V"⟩ : MethodName) b'2 2 none :: ws) ({ frames := 2, cells := 2, slots := 4, locals := 29 } : Room)) (fun a U => a = #[(.ref a1), (.ref a2)] ∧ Z.Warmed39 U.vm ∧ U.heap = h0 ∧ CHv Z ([("java/lang/String", 7)] : List (String × Nat)) U.vm h0) (fun _ _ _ _ _ => True) (fun _ U o U' => ∃ v L, o = .returned v ∧ QI0 Z a1 h0 n0 v U'.heap L ∧ ReturnedEndW U o U' L ({ frames := 2, cells := 2, slots := 4, locals := 29 } : Room).cells ({ frames := 2, cells := 2, slots := 4, locals := 29 } : Room).slots) := by
 refine MetFree.of_bodySF pn_2 hisR ?_
 intro p e s m args below meth c s₁ Bd hml0 hP hK
 obtain ⟨rfl, hZ, hh, hCH⟩ := hP
 have hx := Bd.exec
 have hby := Bd.bytes
 have q : own_q p c b'2 := ⟨hx, hby⟩
 have W := @own_w _ _ hw
 have hml : c.maxLocals = 2 := hml0
 have hown : s.vm.findClass "java/lang/String" = some m.cls := findClass_of_methodNamed Bd.named
 have hnm := (name_of_methodNamed Bd.named Bd.method).1
 have hlk : meth.locks = false := BodyLoose.notSynchronized Bd
 have X0 : Stand p l e ({ frames := 2, cells := 2, slots := 4, locals := 29 } : Room) s m #[(.ref a1), (.ref a2)] below meth c s₁ [] 0 0 := Stand.of_body Bd
 have e0 : s₁.heap = h0 := by rw [← hh, Bd.state]; rfl
 have N0 := Fr.nil n0
 show own_Fin p e below (own_PW (QI0 Z a1 h0 n0) s ({ frames := 2, cells := 2, slots := 4, locals := 29 } : Room).cells ({ frames := 2, cells := 2, slots := 4, locals := 29 } : Room).slots) (s₁.setTop (entryFrame m #[(.ref a1), (.ref a2)] 2))
 rw [show entryFrame m #[(.ref a1), (.ref a2)] 2 = mkF m 0 #[.val (.ref a1), .val (.ref a2)] [] from by first | (simp [entryFrame, mkF, argsToLocals, Value.category]; done) | rfl]
 have X0 : Stand p l e ({ frames := 2, cells := 2, slots := 4, locals := 29 } : Room) (s.setVm s.vm) m #[(.ref a1), (.ref a2)] below meth c s₁ [] 0 0 := X0
 have hZ : Z.Warmed39 (s.setVm s.vm).vm := hZ
 have hown : (s.setVm s.vm).vm.findClass "java/lang/String" = some m.cls := hown
 have hS0 : s.Since s.vm 0 := (State.WarmedH.refl s).since 0
 have hk0 : 0 ≤ h0.size := Nat.zero_le _
 have hCH : CHv Z ([("java/lang/String", 7)] : List (String × Nat)) s.vm h0 := hCH
 have hstr : ∀ a ∈ Bundle.stringAtoms, a.before a0 Z = true := fun d hd => hw d ((by decide +kernel : ∀ d ∈ Bundle.stringAtoms, d ∈ tables_1) d hd)
 have kp0 := Keep.refl h0 [a1]
 refine own_aln X0 q d2_0 rfl rfl (own_aln X0 q d2_1 rfl rfl (own_k X0 q d2_2 (own_aln X0 q d2_3 rfl rfl (own_alen (n := (0 : Int32)) X0 q hZ e0 VA d2_4 (own_nl X0 q d2_5 ?_)))))
 refine own_let ?_; intro g409_
 obtain ⟨_, _, ⟨T408, L408, k408, n408⟩, -, X408, hS408, hG408, ⟨Lc408, hQ408, l408, y408, z408⟩, st408⟩ := X0.specialBackS hx (y := own_y7) rfl hown (mvT hZ (W 12 rfl)) (mvT hZ (W 13 rfl)) (mvT hZ (W 15 rfl)) (by decide) (own_backH (W := 0) (rm3_0 l Z a0 hw [] a1 a2 k1 h0 n0 Z0 E1 FV FC VA g1 n12 hEL) hZ (W 15 rfl) (W 7 rfl) (by decide) (by decide) hEL hCH) (g := g409_) rfl (by rw [hml]; rfl) (Steps.refl _) (a := a1) (argsL := [(.ref a2), v'0, v'0, .null]) (rest := []) (lenOf own_pd3 rfl) rfl (by show 2 * 0 + _ ≤ _; exact Nat.le_of_eq rfl) (q.d d2_6) (fun _ _ => ⟨rfl, e0, (by decide : 0 + 2 ≤ _), (by decide : 0 + 4 ≤ _)⟩)
 dsimp only [Pt.U, Pt.locs, Pt.cells, Pt.slots] at X408 l408 y408 z408 st408 hQ408
 rw [l408, y408, z408] at X408
 clear l408 y408 z408
 have X408 : Stand p l e _ (s.setVm T408.vm) m _ below meth c T408 _ _ _ := X408
 have hZ408 : Z.Warmed39 (s.setVm T408.vm).vm := State.Warmed39.trans hZ hS408.1
 have hown : (s.setVm T408.vm).vm.findClass "java/lang/String" = some m.cls := by show T408.vm.findClass _ = _; rw [hS408.1.alike.findClass]; exact hown
 have hZ := hZ408
 have hS408 := State.Since.trans hS0 hS408 (Nat.le_trans hk0 (by rw [← e0]; exact hG408))
 obtain ⟨t408, k408, rfl, N408q, K408, Fv408, Fc408, V408⟩ := hQ408
 have N408 := Fr.app N0 N408q
 obtain ⟨h408, e408⟩ : ∃ z, z = T408.heap := ⟨_, rfl⟩
 have e408' := e408.symm
 rw [← e408] at K408 Fv408 Fc408 V408
 rw [e408'] at hS408
 have hkc408 : h408.size ≤ h408.size := Nat.le_refl _
 have zs410 := Nat.le_trans Z0 K408.1
 have hk410 := Nat.le_trans hk0 K408.1
 have kp410 := kp0.trans K408 (allS (own_i0) all0)
 refine own_stp 9 (fun _ k => st408.trans k) (own_nn ?_)
 refine own_retVW X408 hS408 (by rw [e408']; exact hkc408) hx Bd.returns (q.d d2_9) hlk ?_ (by decide) (by decide)
 show QI0 Z a1 h0 n0 _ T408.heap _
 rw [e408']
 exact ⟨_, _, rfl, N408, kp410, Fv408, Fc408, V408⟩
theorem d0_0 : own_D code 0 (.iload_n 0) 1 1 := by decide +kernel
theorem d0_1 : own_D code 1 (.ldc 7) 2 3 := by decide +kernel
theorem d0_3 : own_D code 3 .iand 1 4 := by decide +kernel
theorem d0_4 : own_DK code 4 5 5 := by decide +kernel
theorem d0_5 : own_D code 5 .irem 1 6 := by decide +kernel
theorem d0_6 : own_D code 6 (.istore 5) 2 8 := by decide +kernel
theorem d0_8 : own_D code 8 (.iload_n 1) 1 9 := by decide +kernel
theorem d0_9 : own_D code 9 (.invokestatic 8) 3 12 := by decide +kernel
theorem d0_12 : own_D code 12 (.istore 6) 2 14 := by decide +kernel
theorem d0_14 : own_D code 14 (.iload_n 2) 1 15 := by decide +kernel
theorem d0_15 : own_D code 15 (.invokestatic 8) 3 18 := by decide +kernel
theorem d0_18 : own_D code 18 (.istore 7) 2 20 := by decide +kernel
theorem d0_20 : own_D code 20 (.iload_n 3) 1 21 := by decide +kernel
theorem d0_21 : own_D code 21 (.invokestatic 8) 3 24 := by decide +kernel
theorem d0_24 : own_D code 24 (.istore 8) 2 26 := by decide +kernel
theorem d0_26 : own_D code 26 (.iload 4) 2 28 := by decide +kernel
theorem d0_28 : own_D code 28 (.invokestatic 8) 3 31 := by decide +kernel
theorem d0_31 : own_D code 31 (.istore 9) 2 33 := by decide +kernel
theorem d0_33 : own_D code 33 (.iload 5) 2 35 := by decide +kernel
theorem d0_35 : own_DZ code 35 .ne 53 38 := by decide +kernel
theorem d0_38 : own_D code 38 (.new 14) 3 41 := by decide +kernel
theorem d0_41 : own_D code 41 .dup 1 42 := by decide +kernel
theorem d0_42 : own_DK code 42 0 43 := by decide +kernel
theorem d0_43 : own_D code 43 (.newarray .char) 2 45 := by decide +kernel
theorem d0_45 : own_D code 45 (.invokespecial 16) 3 48 := by decide +kernel
theorem d0_48 : own_D code 48 (.astore 10) 2 50 := by decide +kernel
theorem d0_50 : own_DG code 50 178 := by decide +kernel
theorem d0_53 : own_D code 53 (.iload 5) 2 55 := by decide +kernel
theorem d0_55 : own_DK code 55 1 56 := by decide +kernel
theorem d0_56 : own_DJ code 56 .ne 79 59 := by decide +kernel
theorem d0_59 : own_D code 59 (.new 14) 3 62 := by decide +kernel
theorem d0_62 : own_D code 62 .dup 1 63 := by decide +kernel
theorem d0_63 : own_DK code 63 1 64 := by decide +kernel
theorem d0_64 : own_D code 64 (.newarray .char) 2 66 := by decide +kernel
theorem d0_66 : own_D code 66 .dup 1 67 := by decide +kernel
theorem d0_67 : own_DK code 67 0 68 := by decide +kernel
theorem d0_68 : own_D code 68 (.iload 6) 2 70 := by decide +kernel
theorem d0_70 : own_D code 70 .castore 1 71 := by decide +kernel
theorem d0_71 : own_D code 71 (.invokespecial 16) 3 74 := by decide +kernel
theorem d0_74 : own_D code 74 (.astore 10) 2 76 := by decide +kernel
theorem d0_76 : own_DG code 76 178 := by decide +kernel
theorem d0_79 : own_D code 79 (.iload 5) 2 81 := by decide +kernel
theorem d0_81 : own_DK code 81 2 82 := by decide +kernel
theorem d0_82 : own_DJ code 82 .ne 110 85 := by decide +kernel
theorem d0_85 : own_D code 85 (.new 14) 3 88 := by decide +kernel
theorem d0_88 : own_D code 88 .dup 1 89 := by decide +kernel
theorem d0_89 : own_DK code 89 2 90 := by decide +kernel
theorem d0_90 : own_D code 90 (.newarray .char) 2 92 := by decide +kernel
theorem d0_92 : own_D code 92 .dup 1 93 := by decide +kernel
theorem d0_93 : own_DK code 93 0 94 := by decide +kernel
theorem d0_94 : own_D code 94 (.iload 6) 2 96 := by decide +kernel
theorem d0_96 : own_D code 96 .castore 1 97 := by decide +kernel
theorem d0_97 : own_D code 97 .dup 1 98 := by decide +kernel
theorem d0_98 : own_DK code 98 1 99 := by decide +kernel
theorem d0_99 : own_D code 99 (.iload 7) 2 101 := by decide +kernel
theorem d0_101 : own_D code 101 .castore 1 102 := by decide +kernel
theorem d0_102 : own_D code 102 (.invokespecial 16) 3 105 := by decide +kernel
theorem d0_105 : own_D code 105 (.astore 10) 2 107 := by decide +kernel
theorem d0_107 : own_DG code 107 178 := by decide +kernel
theorem d0_110 : own_D code 110 (.iload 5) 2 112 := by decide +kernel
theorem d0_112 : own_DK code 112 3 113 := by decide +kernel
theorem d0_113 : own_DJ code 113 .ne 146 116 := by decide +kernel
theorem d0_116 : own_D code 116 (.new 14) 3 119 := by decide +kernel
theorem d0_119 : own_D code 119 .dup 1 120 := by decide +kernel
theorem d0_120 : own_DK code 120 3 121 := by decide +kernel
theorem d0_121 : own_D code 121 (.newarray .char) 2 123 := by decide +kernel
theorem d0_123 : own_D code 123 .dup 1 124 := by decide +kernel
theorem d0_124 : own_DK code 124 0 125 := by decide +kernel
theorem d0_125 : own_D code 125 (.iload 6) 2 127 := by decide +kernel
theorem d0_127 : own_D code 127 .castore 1 128 := by decide +kernel
theorem d0_128 : own_D code 128 .dup 1 129 := by decide +kernel
theorem d0_129 : own_DK code 129 1 130 := by decide +kernel
theorem d0_130 : own_D code 130 (.iload 7) 2 132 := by decide +kernel
theorem d0_132 : own_D code 132 .castore 1 133 := by decide +kernel
theorem d0_133 : own_D code 133 .dup 1 134 := by decide +kernel
theorem d0_134 : own_DK code 134 2 135 := by decide +kernel
theorem d0_135 : own_D code 135 (.iload 8) 2 137 := by decide +kernel
theorem d0_137 : own_D code 137 .castore 1 138 := by decide +kernel
theorem d0_138 : own_D code 138 (.invokespecial 16) 3 141 := by decide +kernel
theorem d0_141 : own_D code 141 (.astore 10) 2 143 := by decide +kernel
theorem d0_143 : own_DG code 143 178 := by decide +kernel
theorem d0_146 : own_D code 146 (.new 14) 3 149 := by decide +kernel
theorem d0_149 : own_D code 149 .dup 1 150 := by decide +kernel
theorem d0_150 : own_DK code 150 4 151 := by decide +kernel
theorem d0_151 : own_D code 151 (.newarray .char) 2 153 := by decide +kernel
theorem d0_153 : own_D code 153 .dup 1 154 := by decide +kernel
theorem d0_154 : own_DK code 154 0 155 := by decide +kernel
theorem d0_155 : own_D code 155 (.iload 6) 2 157 := by decide +kernel
theorem d0_157 : own_D code 157 .castore 1 158 := by decide +kernel
theorem d0_158 : own_D code 158 .dup 1 159 := by decide +kernel
theorem d0_159 : own_DK code 159 1 160 := by decide +kernel
theorem d0_160 : own_D code 160 (.iload 7) 2 162 := by decide +kernel
theorem d0_162 : own_D code 162 .castore 1 163 := by decide +kernel
theorem d0_163 : own_D code 163 .dup 1 164 := by decide +kernel
theorem d0_164 : own_DK code 164 2 165 := by decide +kernel
theorem d0_165 : own_D code 165 (.iload 8) 2 167 := by decide +kernel
theorem d0_167 : own_D code 167 .castore 1 168 := by decide +kernel
theorem d0_168 : own_D code 168 .dup 1 169 := by decide +kernel
theorem d0_169 : own_DK code 169 3 170 := by decide +kernel
theorem d0_170 : own_D code 170 (.iload 9) 2 172 := by decide +kernel
theorem d0_172 : own_D code 172 .castore 1 173 := by decide +kernel
theorem d0_173 : own_D code 173 (.invokespecial 16) 3 176 := by decide +kernel
theorem d0_176 : own_D code 176 (.astore 10) 2 178 := by decide +kernel
theorem d0_178 : own_DK code 178 0 179 := by decide +kernel
theorem d0_179 : own_D code 179 (.istore 11) 2 181 := by decide +kernel
theorem d0_181 : own_D code 181 (.iload 5) 2 183 := by decide +kernel
theorem d0_183 : own_DZ code 183 .le 197 186 := by decide +kernel
theorem d0_186 : own_D code 186 (.iload 6) 2 188 := by decide +kernel
theorem d0_188 : own_D code 188 (.invokestatic 19) 3 191 := by decide +kernel
theorem d0_191 : own_DZ code 191 .eq 197 194 := by decide +kernel
theorem d0_194 : own_DK code 194 1 195 := by decide +kernel
theorem d0_195 : own_D code 195 (.istore 11) 2 197 := by decide +kernel
theorem d0_197 : own_D code 197 (.iload 5) 2 199 := by decide +kernel
theorem d0_199 : own_DK code 199 1 200 := by decide +kernel
theorem d0_200 : own_DJ code 200 .le 214 203 := by decide +kernel
theorem d0_203 : own_D code 203 (.iload 7) 2 205 := by decide +kernel
theorem d0_205 : own_D code 205 (.invokestatic 19) 3 208 := by decide +kernel
theorem d0_208 : own_DZ code 208 .eq 214 211 := by decide +kernel
theorem d0_211 : own_DK code 211 1 212 := by decide +kernel
theorem d0_212 : own_D code 212 (.istore 11) 2 214 := by decide +kernel
theorem d0_214 : own_D code 214 (.iload 5) 2 216 := by decide +kernel
theorem d0_216 : own_DK code 216 2 217 := by decide +kernel
theorem d0_217 : own_DJ code 217 .le 231 220 := by decide +kernel
theorem d0_220 : own_D code 220 (.iload 8) 2 222 := by decide +kernel
theorem d0_222 : own_D code 222 (.invokestatic 19) 3 225 := by decide +kernel
theorem d0_225 : own_DZ code 225 .eq 231 228 := by decide +kernel
theorem d0_228 : own_DK code 228 1 229 := by decide +kernel
theorem d0_229 : own_D code 229 (.istore 11) 2 231 := by decide +kernel
theorem d0_231 : own_D code 231 (.iload 5) 2 233 := by decide +kernel
theorem d0_233 : own_DK code 233 3 234 := by decide +kernel
theorem d0_234 : own_DJ code 234 .le 248 237 := by decide +kernel
theorem d0_237 : own_D code 237 (.iload 9) 2 239 := by decide +kernel
theorem d0_239 : own_D code 239 (.invokestatic 19) 3 242 := by decide +kernel
theorem d0_242 : own_DZ code 242 .eq 248 245 := by decide +kernel
theorem d0_245 : own_DK code 245 1 246 := by decide +kernel
theorem d0_246 : own_D code 246 (.istore 11) 2 248 := by decide +kernel
theorem d0_248 : own_D code 248 (.aload 10) 2 250 := by decide +kernel
theorem d0_250 : own_D code 250 (.invokestatic 23) 3 253 := by decide +kernel
theorem d0_253 : own_D code 253 (.iload 11) 2 255 := by decide +kernel
theorem d0_255 : own_DJ code 255 .ne 262 258 := by decide +kernel
theorem d0_258 : own_DK code 258 1 259 := by decide +kernel
theorem d0_259 : own_DG code 259 263 := by decide +kernel
theorem d0_262 : own_DK code 262 0 263 := by decide +kernel
theorem d0_263 : own_D code 263 .ireturn 1 264 := by decide +kernel
theorem pn_0 : plainFor (⟨"com/example/endpoint/endpoint/maven/PathPatternIsPatternPinLaw", "law", "(IIIII)Z"⟩ : MethodName) = true := plainFor_of_name (by first | (simp [plainName, overriddenIn]; done) | decide +kernel)
theorem rm0 (l : Launch) (Z : State) (a0 : Array Value) (hw : ∀ d ∈ tables_1, d.before a0 Z = true) (ws : List Jvm.Cond) (p1 : Int32) (p2 : Int32) (p3 : Int32) (p4 : Int32) (p5 : Int32) (cs0 : Int32) (h0 : Heap) (n0 : Nat) (Z0 : n0 ≤ h0.size) (O0 : Old Z n0 h0) (SC_ : own_SC Z cs0) (hEL : EW Z a0 ([("java/lang/String", 7)] : List (String × Nat))) :
  MetFree l x (head1 (Jvm.Cond.code x code maxLocals ret :: ws) room_1) (fun a U => a = #[(.int p1), (.int p2), (.int p3), (.int p4), (.int p5)] ∧ Z.Warmed39 U.vm ∧ U.heap = h0 ∧ CHv Z ([("java/lang/String", 7)] : List (String × Nat)) U.vm h0) (fun _ _ _ _ _ => True) (fun _ U o U' => ∃ v L, o = .returned v ∧ Q0 n0 v U'.heap L ∧ ReturnedEndW U o U' L room_1.cells room_1.slots) := by
 obtain ⟨SCS, hcs⟩ := SC_
 refine MetFree.of_bodySF pn_0 hisR ?_
 intro p e s m args below meth c s₁ Bd hml0 hP hK
 obtain ⟨rfl, hZ, hh, hCH⟩ := hP
 have hx := Bd.exec
 have hby := Bd.bytes
 have q : own_q p c code := ⟨hx, hby⟩
 have W := @own_w _ _ hw
 have hml : c.maxLocals = 12 := hml0
 have hown : s.vm.findClass "com/example/endpoint/endpoint/maven/PathPatternIsPatternPinLaw" = some m.cls := findClass_of_methodNamed Bd.named
 have hnm := (name_of_methodNamed Bd.named Bd.method).1
 have hlk : meth.locks = false := BodyLoose.notSynchronized Bd
 have X0 : Stand p l e room_1 s m #[(.int p1), (.int p2), (.int p3), (.int p4), (.int p5)] below meth c s₁ [] 0 0 := Stand.of_body Bd
 have e0 : s₁.heap = h0 := by rw [← hh, Bd.state]; rfl
 have N0 := Fr.nil n0
 show own_Fin p e below (own_PW (Q0 n0) s room_1.cells room_1.slots) (s₁.setTop (entryFrame m #[(.int p1), (.int p2), (.int p3), (.int p4), (.int p5)] maxLocals))
 rw [show entryFrame m #[(.int p1), (.int p2), (.int p3), (.int p4), (.int p5)] maxLocals = mkF m 0 #[.val (.int p1), .val (.int p2), .val (.int p3), .val (.int p4), .val (.int p5), .unset, .unset, .unset, .unset, .unset, .unset, .unset] [] from by first | (simp [entryFrame, mkF, argsToLocals, Value.category, maxLocals]; done) | rfl]
 have X0 : Stand p l e room_1 (s.setVm s.vm) m #[(.int p1), (.int p2), (.int p3), (.int p4), (.int p5)] below meth c s₁ [] 0 0 := X0
 have hZ : Z.Warmed39 (s.setVm s.vm).vm := hZ
 have hown : (s.setVm s.vm).vm.findClass "com/example/endpoint/endpoint/maven/PathPatternIsPatternPinLaw" = some m.cls := hown
 have hS0 : s.Since s.vm 0 := (State.WarmedH.refl s).since 0
 have hk0 : 0 ≤ h0.size := Nat.zero_le _
 have hCH : CHv Z ([("java/lang/String", 7)] : List (String × Nat)) s.vm h0 := hCH
 have hstr : ∀ a ∈ Bundle.stringAtoms, a.before a0 Z = true := fun d hd => hw d ((by decide +kernel : ∀ d ∈ Bundle.stringAtoms, d ∈ tables_1) d hd)
 refine own_iln X0 q d0_0 rfl (own_stq 3 [(.int (2147483647 : Int32)), (.int p1)] (fun _ k => X0.ldcInt hx hown (mvT hZ (W 0 rfl)) (g := mkF m 1 _ _) rfl (q.d d0_1) _ k) (own_stp 4 (fun _ k => XS.iand X0.here hx rfl (q.d d0_3) rfl k) (own_k X0 q d0_4 (own_stp 6 (fun _ k => iremM X0 hx rfl (q.d d0_5) rfl (by decide) k) ?_))))
 rcases own_len5 p1 with hl | hl | hl | hl | hl
 ·rw [hl]
  show own_Fin _ _ _ _ (s₁.setTop (mkF m 6 #[.val (.int p1), .val (.int p2), .val (.int p3), .val (.int p4), .val (.int p5), .unset, .unset, .unset, .unset, .unset, .unset, .unset] [v'0]))
  refine own_is X0 q d0_6 (l' := #[.val (.int p1), .val (.int p2), .val (.int p3), .val (.int p4), .val (.int p5), .val v'0, .unset, .unset, .unset, .unset, .unset, .unset]) rfl (own_iln X0 q d0_8 rfl ?_)
  obtain ⟨z626, hz626⟩ : ∃ z, own_draw p2 = z := ⟨_, rfl⟩
  refine own_cS X0 q hZ e0 hown hml (W 1 rfl) (W 2 rfl) (W 3 rfl) (W 4 rfl) (rm1 l Z a0 hw p2 z626 h0 n0 Z0 hz626) d0_9 [(.int p2)] [] own_pd11 rfl rfl 0 (Nat.le_refl _) (by decide) (fun v627 T627 L627 X627 hQ627 => ?_)
  obtain ⟨rfl, N627q, e627⟩ := hQ627
  have N627 := Fr.app N0 N627q
  refine own_nv (own_is X627 q d0_12 (l' := #[.val (.int p1), .val (.int p2), .val (.int p3), .val (.int p4), .val (.int p5), .val v'0, .val (.int z626), .unset, .unset, .unset, .unset, .unset]) rfl (own_iln X627 q d0_14 rfl ?_))
  obtain ⟨z628, hz628⟩ : ∃ z, own_draw p3 = z := ⟨_, rfl⟩
  refine own_cS X627 q hZ e627 hown hml (W 1 rfl) (W 2 rfl) (W 3 rfl) (W 4 rfl) (rm1 l Z a0 hw p3 z628 h0 n0 Z0 hz628) d0_15 [(.int p3)] [] own_pd11 rfl rfl 0 (Nat.le_refl _) (by decide) (fun v629 T629 L629 X629 hQ629 => ?_)
  obtain ⟨rfl, N629q, e629⟩ := hQ629
  have N629 := Fr.app N627 N629q
  refine own_nv (own_is X629 q d0_18 (l' := #[.val (.int p1), .val (.int p2), .val (.int p3), .val (.int p4), .val (.int p5), .val v'0, .val (.int z626), .val (.int z628), .unset, .unset, .unset, .unset]) rfl (own_iln X629 q d0_20 rfl ?_))
  obtain ⟨z630, hz630⟩ : ∃ z, own_draw p4 = z := ⟨_, rfl⟩
  refine own_cS X629 q hZ e629 hown hml (W 1 rfl) (W 2 rfl) (W 3 rfl) (W 4 rfl) (rm1 l Z a0 hw p4 z630 h0 n0 Z0 hz630) d0_21 [(.int p4)] [] own_pd11 rfl rfl 0 (Nat.le_refl _) (by decide) (fun v631 T631 L631 X631 hQ631 => ?_)
  obtain ⟨rfl, N631q, e631⟩ := hQ631
  have N631 := Fr.app N629 N631q
  refine own_nv (own_is X631 q d0_24 (l' := #[.val (.int p1), .val (.int p2), .val (.int p3), .val (.int p4), .val (.int p5), .val v'0, .val (.int z626), .val (.int z628), .val (.int z630), .unset, .unset, .unset]) rfl (own_il X631 q d0_26 rfl ?_))
  obtain ⟨z632, hz632⟩ : ∃ z, own_draw p5 = z := ⟨_, rfl⟩
  refine own_cS X631 q hZ e631 hown hml (W 1 rfl) (W 2 rfl) (W 3 rfl) (W 4 rfl) (rm1 l Z a0 hw p5 z632 h0 n0 Z0 hz632) d0_28 [(.int p5)] [] own_pd11 rfl rfl 0 (Nat.le_refl _) (by decide) (fun v633 T633 L633 X633 hQ633 => ?_)
  obtain ⟨rfl, N633q, e633⟩ := hQ633
  have N633 := Fr.app N631 N633q
  refine own_nv (own_is X633 q d0_31 (l' := #[.val (.int p1), .val (.int p2), .val (.int p3), .val (.int p4), .val (.int p5), .val v'0, .val (.int z626), .val (.int z628), .val (.int z630), .val (.int z632), .unset, .unset]) rfl ?_)
  have c8_z626 := own_d8 hz626
  have c8_z628 := own_d8 hz628
  have c8_z630 := own_d8 hz630
  have c8_z632 := own_d8 hz632
  refine own_il X633 q d0_33 rfl (own_zn X633 q d0_35 (((if0 _ _).trans (teq (rfl : (0 : Int32) = (0 : Int32))).2)) ?_)
  refine own_let ?_; intro g634_
  obtain ⟨T635, h635, X635, e635, E635, A635, D635, -, st635⟩ := newO X633 hx hZ hown (W 5 rfl) (W 6 rfl) (W 7 rfl) e633 (g := g634_) rfl (q.d d0_38) (by decide) (by decide)
  obtain ⟨b635, g635⟩ : ∃ z, z = h0.size := ⟨_, rfl⟩
  rw [← g635] at A635 D635 st635
  have zs636 := Nat.le_trans Z0 E635.1
  have hk636 := Nat.le_trans hk0 E635.1
  have od636 := O0.ext E635
  have g_b635 : n0 ≤ b635 := Nat.le_trans Z0 (Nat.le_of_eq g635.symm)
  have F635_value : F'1 Z h635 b635 .null := D635 (Or.inr (W 21 rfl)) (ty := (.array .byte)) (by decide)
  have F635_coder : F'0 Z h635 b635 v'0 := D635 (Or.inr (W 22 rfl)) (ty := .byte) (by decide)
  refine own_stq 41 [(.ref b635)] st635 (own_dp X635 q d0_41 rfl (own_k X635 q d0_42 ?_))
  refine own_let ?_; intro g637_
  obtain ⟨T638, h638, k638, X638, e638, E638, A638, st638⟩ := newP X635 hx hZ (W 8 rfl) e635 (g := g637_) rfl (q.d d0_43) rfl (by decide) (cap := 0) (by decide) (by decide) (by decide) (by decide)
  obtain ⟨b638, g638⟩ : ∃ z, z = h635.size := ⟨_, rfl⟩
  rw [← g638] at A638 st638
  have V638 : Arv Z h638 b638 k638 .char (0 : Int32) [] v'0 := Arv.new A638 (by decide)
  have zs639 := Nat.le_trans zs636 E638.1
  have hk639 := Nat.le_trans hk636 E638.1
  have od639 := od636.ext E638
  have g_b638 : n0 ≤ b638 := Nat.le_trans zs636 (Nat.le_of_eq g638.symm)
  refine own_stp 45 st638 ?_
  refine own_let ?_; intro g641_
  obtain ⟨_, _, ⟨T640, L640, k640, n640⟩, -, X640, hS640, hG640, ⟨Lc640, hQ640, l640, y640, z640⟩, st640⟩ := X638.specialBackS hx (y := own_y8) rfl hown (mvT hZ (W 9 rfl)) (mvT hZ (W 10 rfl)) (mvT hZ (W 11 rfl)) (by decide) (own_backH (W := 1) (rm2_0 l Z a0 hw [] b635 b638 k638 h638 n0 zs639 (A635.ext E638) (F635_value.ext E638) (F635_coder.ext E638) V638 g_b635 (own_ne (A635).lt (Nat.le_of_eq g638.symm)) hEL) hZ (W 11 rfl) (W 7 rfl) (by decide) (by decide) hEL (CHv.ext E638 (CHv.ext E635 hCH))) (g := g641_) rfl (by rw [hml]; rfl) (Steps.refl _) (a := b635) (argsL := [(.ref b638)]) (rest := [(.ref b635)]) (lenOf own_pd12 rfl) rfl (by show 2 * 0 + _ ≤ _; exact Nat.le_of_eq rfl) (q.d d0_45) (fun _ _ => ⟨rfl, e638, (by decide : 2 + 2 ≤ _), (by decide : 4 + 4 ≤ _)⟩)
  dsimp only [Pt.U, Pt.locs, Pt.cells, Pt.slots] at X640 l640 y640 z640 st640 hQ640
  rw [l640, y640, z640] at X640
  clear l640 y640 z640
  have X640 : Stand p l e _ (s.setVm T640.vm) m _ below meth c T640 _ _ _ := X640
  have hZ640 : Z.Warmed39 (s.setVm T640.vm).vm := State.Warmed39.trans hZ hS640.1
  have hown : (s.setVm T640.vm).vm.findClass "com/example/endpoint/endpoint/maven/PathPatternIsPatternPinLaw" = some m.cls := by show T640.vm.findClass _ = _; rw [hS640.1.alike.findClass]; exact hown
  have hZ := hZ640
  have hS640 := State.Since.trans hS0 hS640 (Nat.le_trans hk639 (by rw [← e638]; exact hG640))
  obtain ⟨t640, k640, rfl, N640q, K640, Fv640, Fc640, V640⟩ := hQ640
  have N640 := Fr.app N633 N640q
  obtain ⟨h640, e640⟩ : ∃ z, z = T640.heap := ⟨_, rfl⟩
  have e640' := e640.symm
  rw [← e640] at K640 Fv640 Fc640 V640
  rw [e640'] at hS640
  have hkc640 : h640.size ≤ h640.size := Nat.le_refl _
  have zs642 := Nat.le_trans zs639 K640.1
  have hk642 := Nat.le_trans hk639 K640.1
  have od642 := od639.keep K640 (allS g_b635 all0)
  refine own_stp 48 (fun _ k => st640.trans k) (own_nn (own_as X640 q d0_48 rfl (l' := #[.val (.int p1), .val (.int p2), .val (.int p3), .val (.int p4), .val (.int p5), .val v'0, .val (.int z626), .val (.int z628), .val (.int z630), .val (.int z632), .val (.ref b635), .unset]) rfl (own_gt X640 q d0_50 (own_k X640 q d0_178 (own_is X640 q d0_179 (l' := #[.val (.int p1), .val (.int p2), .val (.int p3), .val (.int p4), .val (.int p5), .val v'0, .val (.int z626), .val (.int z628), .val (.int z630), .val (.int z632), .val (.ref b635), .val v'0]) rfl (own_il X640 q d0_181 rfl (own_zy X640 q d0_183 (((if0 _ _).trans (flt (Int32.lt_irrefl : ¬ ((0 : Int32) < (0 : Int32)))).2.2.2)) (own_il X640 q d0_197 rfl (own_k X640 q d0_199 (own_cy X640 q d0_200 ((flt ((by decide) : ¬ ((1 : Int32) < (0 : Int32)))).2.2.2) (own_il X640 q d0_214 rfl ?_)))))))))))
  refine own_k X640 q d0_216 (own_cy X640 q d0_217 ((flt ((by decide) : ¬ ((2 : Int32) < (0 : Int32)))).2.2.2) (own_il X640 q d0_231 rfl (own_k X640 q d0_233 (own_cy X640 q d0_234 ((flt ((by decide) : ¬ ((3 : Int32) < (0 : Int32)))).2.2.2) (own_al X640 q d0_248 rfl rfl ?_)))))
  refine own_cS X640 q hZ e640' hown hml (W 27 rfl) (W 28 rfl) (W 29 rfl) (W 30 rfl) (rm5_0 l Z a0 hw b635 t640 k640  cs0 h640 n0 zs642 ((A635.ext E638).keep K640) Fv640 V640 od642 ⟨SCS, hcs⟩ Fc640) d0_250 [(.ref b635)] [] own_pd13 rfl rfl 0 (Nat.le_refl _) (by decide) (fun v643 T643 L643 X643 hQ643 => ?_)
  obtain ⟨z643, rfl, N643q, e643, hP643⟩ := hQ643
  have N643 := Fr.app N640 N643q
  refine own_nv (own_il X643 q d0_253 rfl ?_)
  have hE644 : z643 = (0 : Int32) := by
   rcases hP643 with ⟨hq, r⟩ | ⟨hq, r⟩
   ·exfalso
    simp at r
   ·exact hq
  refine own_cn X643 q d0_255 ((teq (hE644 : z643 = (0 : Int32))).2) (own_k X643 q d0_258 (own_gt X643 q d0_259 ?_))
  refine own_retNW X643 hS640 (by rw [e643]; exact hkc640) hx (t := .boolean) Bd.returns (by simp) (q.d d0_263) hlk ?_ (by decide) (by decide)
  exact ⟨rfl, N643⟩
 ·rw [hl]
  show own_Fin _ _ _ _ (s₁.setTop (mkF m 6 #[.val (.int p1), .val (.int p2), .val (.int p3), .val (.int p4), .val (.int p5), .unset, .unset, .unset, .unset, .unset, .unset, .unset] [v'1]))
  refine own_is X0 q d0_6 (l' := #[.val (.int p1), .val (.int p2), .val (.int p3), .val (.int p4), .val (.int p5), .val v'1, .unset, .unset, .unset, .unset, .unset, .unset]) rfl (own_iln X0 q d0_8 rfl ?_)
  obtain ⟨z645, hz645⟩ : ∃ z, own_draw p2 = z := ⟨_, rfl⟩
  refine own_cS X0 q hZ e0 hown hml (W 1 rfl) (W 2 rfl) (W 3 rfl) (W 4 rfl) (rm1 l Z a0 hw p2 z645 h0 n0 Z0 hz645) d0_9 [(.int p2)] [] own_pd11 rfl rfl 0 (Nat.le_refl _) (by decide) (fun v646 T646 L646 X646 hQ646 => ?_)
  obtain ⟨rfl, N646q, e646⟩ := hQ646
  have N646 := Fr.app N0 N646q
  refine own_nv (own_is X646 q d0_12 (l' := #[.val (.int p1), .val (.int p2), .val (.int p3), .val (.int p4), .val (.int p5), .val v'1, .val (.int z645), .unset, .unset, .unset, .unset, .unset]) rfl (own_iln X646 q d0_14 rfl ?_))
  obtain ⟨z647, hz647⟩ : ∃ z, own_draw p3 = z := ⟨_, rfl⟩
  refine own_cS X646 q hZ e646 hown hml (W 1 rfl) (W 2 rfl) (W 3 rfl) (W 4 rfl) (rm1 l Z a0 hw p3 z647 h0 n0 Z0 hz647) d0_15 [(.int p3)] [] own_pd11 rfl rfl 0 (Nat.le_refl _) (by decide) (fun v648 T648 L648 X648 hQ648 => ?_)
  obtain ⟨rfl, N648q, e648⟩ := hQ648
  have N648 := Fr.app N646 N648q
  refine own_nv (own_is X648 q d0_18 (l' := #[.val (.int p1), .val (.int p2), .val (.int p3), .val (.int p4), .val (.int p5), .val v'1, .val (.int z645), .val (.int z647), .unset, .unset, .unset, .unset]) rfl (own_iln X648 q d0_20 rfl ?_))
  obtain ⟨z649, hz649⟩ : ∃ z, own_draw p4 = z := ⟨_, rfl⟩
  refine own_cS X648 q hZ e648 hown hml (W 1 rfl) (W 2 rfl) (W 3 rfl) (W 4 rfl) (rm1 l Z a0 hw p4 z649 h0 n0 Z0 hz649) d0_21 [(.int p4)] [] own_pd11 rfl rfl 0 (Nat.le_refl _) (by decide) (fun v650 T650 L650 X650 hQ650 => ?_)
  obtain ⟨rfl, N650q, e650⟩ := hQ650
  have N650 := Fr.app N648 N650q
  refine own_nv (own_is X650 q d0_24 (l' := #[.val (.int p1), .val (.int p2), .val (.int p3), .val (.int p4), .val (.int p5), .val v'1, .val (.int z645), .val (.int z647), .val (.int z649), .unset, .unset, .unset]) rfl (own_il X650 q d0_26 rfl ?_))
  obtain ⟨z651, hz651⟩ : ∃ z, own_draw p5 = z := ⟨_, rfl⟩
  refine own_cS X650 q hZ e650 hown hml (W 1 rfl) (W 2 rfl) (W 3 rfl) (W 4 rfl) (rm1 l Z a0 hw p5 z651 h0 n0 Z0 hz651) d0_28 [(.int p5)] [] own_pd11 rfl rfl 0 (Nat.le_refl _) (by decide) (fun v652 T652 L652 X652 hQ652 => ?_)
  obtain ⟨rfl, N652q, e652⟩ := hQ652
  have N652 := Fr.app N650 N652q
  refine own_nv (own_is X652 q d0_31 (l' := #[.val (.int p1), .val (.int p2), .val (.int p3), .val (.int p4), .val (.int p5), .val v'1, .val (.int z645), .val (.int z647), .val (.int z649), .val (.int z651), .unset, .unset]) rfl ?_)
  have c8_z645 := own_d8 hz645
  have c8_z647 := own_d8 hz647
  have c8_z649 := own_d8 hz649
  have c8_z651 := own_d8 hz651
  refine own_il X652 q d0_33 rfl (own_zy X652 q d0_35 (((if0 _ _).trans (feq ((by decide) : ¬ ((1 : Int32) = (0 : Int32)))).2)) (own_il X652 q d0_53 rfl (own_k X652 q d0_55 (own_cn X652 q d0_56 ((teq (rfl : (1 : Int32) = (1 : Int32))).2) ?_))))
  refine own_let ?_; intro g653_
  obtain ⟨T654, h654, X654, e654, E654, A654, D654, -, st654⟩ := newO X652 hx hZ hown (W 5 rfl) (W 6 rfl) (W 7 rfl) e652 (g := g653_) rfl (q.d d0_59) (by decide) (by decide)
  obtain ⟨b654, g654⟩ : ∃ z, z = h0.size := ⟨_, rfl⟩
  rw [← g654] at A654 D654 st654
  have zs655 := Nat.le_trans Z0 E654.1
  have hk655 := Nat.le_trans hk0 E654.1
  have od655 := O0.ext E654
  have g_b654 : n0 ≤ b654 := Nat.le_trans Z0 (Nat.le_of_eq g654.symm)
  have F654_value : F'1 Z h654 b654 .null := D654 (Or.inr (W 21 rfl)) (ty := (.array .byte)) (by decide)
  have F654_coder : F'0 Z h654 b654 v'0 := D654 (Or.inr (W 22 rfl)) (ty := .byte) (by decide)
  refine own_stq 62 [(.ref b654)] st654 (own_dp X654 q d0_62 rfl (own_k X654 q d0_63 ?_))
  refine own_let ?_; intro g656_
  obtain ⟨T657, h657, k657, X657, e657, E657, A657, st657⟩ := newP X654 hx hZ (W 8 rfl) e654 (g := g656_) rfl (q.d d0_64) rfl (by decide) (cap := 1) (by decide) (by decide) (by decide) (by decide)
  obtain ⟨b657, g657⟩ : ∃ z, z = h654.size := ⟨_, rfl⟩
  rw [← g657] at A657 st657
  have V657 : Arv Z h657 b657 k657 .char (1 : Int32) [v'0] v'0 := (Arv.new A657 (by decide)).pad (pad_rep [] v'0 1)
  have zs658 := Nat.le_trans zs655 E657.1
  have hk658 := Nat.le_trans hk655 E657.1
  have od658 := od655.ext E657
  have g_b657 : n0 ≤ b657 := Nat.le_trans zs655 (Nat.le_of_eq g657.symm)
  refine own_stp 66 st657 (own_dp X657 q d0_66 rfl (own_k X657 q d0_67 (own_il X657 q d0_68 rfl ?_)))
  refine own_cst X657 q hZ e657 V657 d0_70 (by decide) (Nat.le_of_ble_eq_true rfl) N652 g_b657 fun T659 h659 X659 e659 W659 V659 N659 => ?_
  have zs660 := Nat.le_trans zs658 (Keep.of_wr W659).1
  have hk660 := Nat.le_trans hk658 (Keep.of_wr W659).1
  have od660 := od658.wr W659 g_b657
  refine own_cIh (a := b654) X659 q hZ e659 hown hml (W 9 rfl) (W 10 rfl) (W 7 rfl) (W 11 rfl) (rm2_1 l Z a0 hw b654 b657 k657 (nar .char z645) cs0 h659 n0 zs660 ((A654.ext E657).wr W659) ((F654_value.ext E657).other W659 (Or.inl (own_ne (A654).lt (Nat.le_of_eq g657.symm)))) ((F654_coder.ext E657).other W659 (Or.inl (own_ne (A654).lt (Nat.le_of_eq g657.symm)))) V659 g_b654 (own_ne (A654).lt (Nat.le_of_eq g657.symm)) od660 ⟨SCS, hcs⟩ (own_nc8 c8_z645)) d0_71 [(.ref b657)] [(.ref b654)] own_pd12 rfl rfl 1 (Nat.le_refl _) rfl (by decide) (fun v661 T661 L661 h661 e661' X661 hQ661 => ?_)
  obtain ⟨t661, k661, rfl, N661q, K661, Fv661, Fc661, V661⟩ := hQ661
  have N661 := Fr.app N659 N661q
  have zs662 := Nat.le_trans zs660 K661.1
  have hk662 := Nat.le_trans hk660 K661.1
  have od662 := od660.keep K661 (allS g_b654 all0)
  refine own_nn (own_as X661 q d0_74 rfl (l' := #[.val (.int p1), .val (.int p2), .val (.int p3), .val (.int p4), .val (.int p5), .val v'1, .val (.int z645), .val (.int z647), .val (.int z649), .val (.int z651), .val (.ref b654), .unset]) rfl (own_gt X661 q d0_76 (own_k X661 q d0_178 (own_is X661 q d0_179 (l' := #[.val (.int p1), .val (.int p2), .val (.int p3), .val (.int p4), .val (.int p5), .val v'1, .val (.int z645), .val (.int z647), .val (.int z649), .val (.int z651), .val (.ref b654), .val v'0]) rfl (own_il X661 q d0_181 rfl (own_zn X661 q d0_183 (((if0 _ _).trans (tlt ((by decide) : (0 : Int32) < (1 : Int32))).2.2.2)) (own_il X661 q d0_186 rfl ?_)))))))
  refine own_cS X661 q hZ e661' hown hml (W 81 rfl) (W 82 rfl) (W 3 rfl) (W 83 rfl) (rm18 l Z a0 hw z645 h661 n0 zs662) d0_188 [(.int z645)] [] own_pd14 rfl rfl 0 (Nat.le_refl _) (by decide) (fun v663 T663 L663 X663 hQ663 => ?_)
  obtain ⟨z663, rfl, N663q, e663, hM663⟩ := hQ663
  have N663 := Fr.app N661 N663q
  refine own_nv ?_
  by_cases hc191_664 : z663 = (0 : Int32)
  ·refine own_zy X663 q d0_191 (((if0 _ _).trans (teq hc191_664).1)) (own_il X663 q d0_197 rfl (own_k X663 q d0_199 (own_cy X663 q d0_200 ((flt (Int32.lt_irrefl : ¬ ((1 : Int32) < (1 : Int32)))).2.2.2) (own_il X663 q d0_214 rfl (own_k X663 q d0_216 (own_cy X663 q d0_217 ((flt ((by decide) : ¬ ((2 : Int32) < (1 : Int32)))).2.2.2) (own_il X663 q d0_231 rfl (own_k X663 q d0_233 (own_cy X663 q d0_234 ((flt ((by decide) : ¬ ((3 : Int32) < (1 : Int32)))).2.2.2) (own_al X663 q d0_248 rfl rfl ?_))))))))))
   refine own_cS X663 q hZ e663 hown hml (W 27 rfl) (W 28 rfl) (W 29 rfl) (W 30 rfl) (rm5_1 l Z a0 hw b654 t661 k661 (nar .byte ((nar .char z645).toInt8.toInt32)) cs0 h661 n0 zs662 (((A654.ext E657).wr W659).keep K661) Fv661 V661 od662 ⟨SCS, hcs⟩ Fc661) d0_250 [(.ref b654)] [] own_pd13 rfl rfl 0 (Nat.le_refl _) (by decide) (fun v665 T665 L665 X665 hQ665 => ?_)
   obtain ⟨z665, rfl, N665q, e665, hP665⟩ := hQ665
   have N665 := Fr.app N663 N665q
   refine own_nv (own_il X665 q d0_253 rfl ?_)
   have hE666 : z665 = (0 : Int32) := by
    have v_z645 := own_w0 hM663 hc191_664
    rcases hP665 with ⟨hq, r⟩ | ⟨hq, r⟩
    ·exfalso
     simp only [List.mem_cons, List.not_mem_nil, or_false, own_b42 c8_z645, own_b63 c8_z645] at r
     rcases r with (r) | (r)
     ·exact v_z645 (Or.inl r)
     ·exact v_z645 (Or.inr r)
    ·exact hq
   refine own_cn X665 q d0_255 ((teq (hE666 : z665 = (0 : Int32))).2) (own_k X665 q d0_258 (own_gt X665 q d0_259 ?_))
   refine own_retNW X665 hS0 (by rw [e665]; exact hk662) hx (t := .boolean) Bd.returns (by simp) (q.d d0_263) hlk ?_ (by decide) (by decide)
   exact ⟨rfl, N665⟩
  ·refine own_zn X663 q d0_191 (((if0 _ _).trans (feq hc191_664).1)) (own_k X663 q d0_194 (own_is X663 q d0_195 (l' := #[.val (.int p1), .val (.int p2), .val (.int p3), .val (.int p4), .val (.int p5), .val v'1, .val (.int z645), .val (.int z647), .val (.int z649), .val (.int z651), .val (.ref b654), .val v'1]) rfl (own_il X663 q d0_197 rfl (own_k X663 q d0_199 (own_cy X663 q d0_200 ((flt (Int32.lt_irrefl : ¬ ((1 : Int32) < (1 : Int32)))).2.2.2) (own_il X663 q d0_214 rfl (own_k X663 q d0_216 (own_cy X663 q d0_217 ((flt ((by decide) : ¬ ((2 : Int32) < (1 : Int32)))).2.2.2) (own_il X663 q d0_231 rfl (own_k X663 q d0_233 (own_cy X663 q d0_234 ((flt ((by decide) : ¬ ((3 : Int32) < (1 : Int32)))).2.2.2) ?_)))))))))))
   refine own_al X663 q d0_248 rfl rfl ?_
   refine own_cS X663 q hZ e663 hown hml (W 27 rfl) (W 28 rfl) (W 29 rfl) (W 30 rfl) (rm5_1 l Z a0 hw b654 t661 k661 (nar .byte ((nar .char z645).toInt8.toInt32)) cs0 h661 n0 zs662 (((A654.ext E657).wr W659).keep K661) Fv661 V661 od662 ⟨SCS, hcs⟩ Fc661) d0_250 [(.ref b654)] [] own_pd13 rfl rfl 0 (Nat.le_refl _) (by decide) (fun v667 T667 L667 X667 hQ667 => ?_)
   obtain ⟨z667, rfl, N667q, e667, hP667⟩ := hQ667
   have N667 := Fr.app N663 N667q
   refine own_nv (own_il X667 q d0_253 rfl ?_)
   have hE668 : z667 = (1 : Int32) := by
    have v_z645 := own_w1 hM663 hc191_664
    rcases hP667 with ⟨hq, r⟩ | ⟨hq, r⟩
    ·exact hq
    ·exfalso
     simp only [List.mem_cons, List.not_mem_nil, or_false, own_b42 c8_z645, own_b63 c8_z645] at r
     rcases v_z645 with q | q
     ·exact r (Or.inl q)
     ·exact r (Or.inr q)
   refine own_cn X667 q d0_255 ((teq (hE668 : z667 = (1 : Int32))).2) (own_k X667 q d0_258 (own_gt X667 q d0_259 ?_))
   refine own_retNW X667 hS0 (by rw [e667]; exact hk662) hx (t := .boolean) Bd.returns (by simp) (q.d d0_263) hlk ?_ (by decide) (by decide)
   exact ⟨rfl, N667⟩
 ·rw [hl]
  show own_Fin _ _ _ _ (s₁.setTop (mkF m 6 #[.val (.int p1), .val (.int p2), .val (.int p3), .val (.int p4), .val (.int p5), .unset, .unset, .unset, .unset, .unset, .unset, .unset] [v'2]))
  refine own_is X0 q d0_6 (l' := #[.val (.int p1), .val (.int p2), .val (.int p3), .val (.int p4), .val (.int p5), .val v'2, .unset, .unset, .unset, .unset, .unset, .unset]) rfl (own_iln X0 q d0_8 rfl ?_)
  obtain ⟨z669, hz669⟩ : ∃ z, own_draw p2 = z := ⟨_, rfl⟩
  refine own_cS X0 q hZ e0 hown hml (W 1 rfl) (W 2 rfl) (W 3 rfl) (W 4 rfl) (rm1 l Z a0 hw p2 z669 h0 n0 Z0 hz669) d0_9 [(.int p2)] [] own_pd11 rfl rfl 0 (Nat.le_refl _) (by decide) (fun v670 T670 L670 X670 hQ670 => ?_)
  obtain ⟨rfl, N670q, e670⟩ := hQ670
  have N670 := Fr.app N0 N670q
  refine own_nv (own_is X670 q d0_12 (l' := #[.val (.int p1), .val (.int p2), .val (.int p3), .val (.int p4), .val (.int p5), .val v'2, .val (.int z669), .unset, .unset, .unset, .unset, .unset]) rfl (own_iln X670 q d0_14 rfl ?_))
  obtain ⟨z671, hz671⟩ : ∃ z, own_draw p3 = z := ⟨_, rfl⟩
  refine own_cS X670 q hZ e670 hown hml (W 1 rfl) (W 2 rfl) (W 3 rfl) (W 4 rfl) (rm1 l Z a0 hw p3 z671 h0 n0 Z0 hz671) d0_15 [(.int p3)] [] own_pd11 rfl rfl 0 (Nat.le_refl _) (by decide) (fun v672 T672 L672 X672 hQ672 => ?_)
  obtain ⟨rfl, N672q, e672⟩ := hQ672
  have N672 := Fr.app N670 N672q
  refine own_nv (own_is X672 q d0_18 (l' := #[.val (.int p1), .val (.int p2), .val (.int p3), .val (.int p4), .val (.int p5), .val v'2, .val (.int z669), .val (.int z671), .unset, .unset, .unset, .unset]) rfl (own_iln X672 q d0_20 rfl ?_))
  obtain ⟨z673, hz673⟩ : ∃ z, own_draw p4 = z := ⟨_, rfl⟩
  refine own_cS X672 q hZ e672 hown hml (W 1 rfl) (W 2 rfl) (W 3 rfl) (W 4 rfl) (rm1 l Z a0 hw p4 z673 h0 n0 Z0 hz673) d0_21 [(.int p4)] [] own_pd11 rfl rfl 0 (Nat.le_refl _) (by decide) (fun v674 T674 L674 X674 hQ674 => ?_)
  obtain ⟨rfl, N674q, e674⟩ := hQ674
  have N674 := Fr.app N672 N674q
  refine own_nv (own_is X674 q d0_24 (l' := #[.val (.int p1), .val (.int p2), .val (.int p3), .val (.int p4), .val (.int p5), .val v'2, .val (.int z669), .val (.int z671), .val (.int z673), .unset, .unset, .unset]) rfl (own_il X674 q d0_26 rfl ?_))
  obtain ⟨z675, hz675⟩ : ∃ z, own_draw p5 = z := ⟨_, rfl⟩
  refine own_cS X674 q hZ e674 hown hml (W 1 rfl) (W 2 rfl) (W 3 rfl) (W 4 rfl) (rm1 l Z a0 hw p5 z675 h0 n0 Z0 hz675) d0_28 [(.int p5)] [] own_pd11 rfl rfl 0 (Nat.le_refl _) (by decide) (fun v676 T676 L676 X676 hQ676 => ?_)
  obtain ⟨rfl, N676q, e676⟩ := hQ676
  have N676 := Fr.app N674 N676q
  refine own_nv (own_is X676 q d0_31 (l' := #[.val (.int p1), .val (.int p2), .val (.int p3), .val (.int p4), .val (.int p5), .val v'2, .val (.int z669), .val (.int z671), .val (.int z673), .val (.int z675), .unset, .unset]) rfl ?_)
  have c8_z669 := own_d8 hz669
  have c8_z671 := own_d8 hz671
  have c8_z673 := own_d8 hz673
  have c8_z675 := own_d8 hz675
  refine own_il X676 q d0_33 rfl (own_zy X676 q d0_35 (((if0 _ _).trans (feq ((by decide) : ¬ ((2 : Int32) = (0 : Int32)))).2)) (own_il X676 q d0_53 rfl (own_k X676 q d0_55 (own_cy X676 q d0_56 ((feq ((by decide) : ¬ ((2 : Int32) = (1 : Int32)))).2) (own_il X676 q d0_79 rfl (own_k X676 q d0_81 (own_cn X676 q d0_82 ((teq (rfl : (2 : Int32) = (2 : Int32))).2) ?_)))))))
  refine own_let ?_; intro g677_
  obtain ⟨T678, h678, X678, e678, E678, A678, D678, -, st678⟩ := newO X676 hx hZ hown (W 5 rfl) (W 6 rfl) (W 7 rfl) e676 (g := g677_) rfl (q.d d0_85) (by decide) (by decide)
  obtain ⟨b678, g678⟩ : ∃ z, z = h0.size := ⟨_, rfl⟩
  rw [← g678] at A678 D678 st678
  have zs679 := Nat.le_trans Z0 E678.1
  have hk679 := Nat.le_trans hk0 E678.1
  have od679 := O0.ext E678
  have g_b678 : n0 ≤ b678 := Nat.le_trans Z0 (Nat.le_of_eq g678.symm)
  have F678_value : F'1 Z h678 b678 .null := D678 (Or.inr (W 21 rfl)) (ty := (.array .byte)) (by decide)
  have F678_coder : F'0 Z h678 b678 v'0 := D678 (Or.inr (W 22 rfl)) (ty := .byte) (by decide)
  refine own_stq 88 [(.ref b678)] st678 (own_dp X678 q d0_88 rfl (own_k X678 q d0_89 ?_))
  refine own_let ?_; intro g680_
  obtain ⟨T681, h681, k681, X681, e681, E681, A681, st681⟩ := newP X678 hx hZ (W 8 rfl) e678 (g := g680_) rfl (q.d d0_90) rfl (by decide) (cap := 2) (by decide) (by decide) (by decide) (by decide)
  obtain ⟨b681, g681⟩ : ∃ z, z = h678.size := ⟨_, rfl⟩
  rw [← g681] at A681 st681
  have V681 : Arv Z h681 b681 k681 .char (2 : Int32) [v'0, v'0] v'0 := (Arv.new A681 (by decide)).pad (pad_rep [] v'0 2)
  have zs682 := Nat.le_trans zs679 E681.1
  have hk682 := Nat.le_trans hk679 E681.1
  have od682 := od679.ext E681
  have g_b681 : n0 ≤ b681 := Nat.le_trans zs679 (Nat.le_of_eq g681.symm)
  refine own_stp 92 st681 (own_dp X681 q d0_92 rfl (own_k X681 q d0_93 (own_il X681 q d0_94 rfl ?_)))
  refine own_cst X681 q hZ e681 V681 d0_96 (by decide) (Nat.le_of_ble_eq_true rfl) N676 g_b681 fun T683 h683 X683 e683 W683 V683 N683 => ?_
  have zs684 := Nat.le_trans zs682 (Keep.of_wr W683).1
  have hk684 := Nat.le_trans hk682 (Keep.of_wr W683).1
  have od684 := od682.wr W683 g_b681
  refine own_dp X683 q d0_97 rfl (own_k X683 q d0_98 (own_il X683 q d0_99 rfl ?_))
  refine own_cst X683 q hZ e683 V683 d0_101 (by decide) (Nat.le_of_ble_eq_true rfl) N683 g_b681 fun T685 h685 X685 e685 W685 V685 N685 => ?_
  have zs686 := Nat.le_trans zs684 (Keep.of_wr W685).1
  have hk686 := Nat.le_trans hk684 (Keep.of_wr W685).1
  have od686 := od684.wr W685 g_b681
  refine own_cIh (a := b678) X685 q hZ e685 hown hml (W 9 rfl) (W 10 rfl) (W 7 rfl) (W 11 rfl) (rm2_2 l Z a0 hw b678 b681 k681 (nar .char z669) (nar .char z671) cs0 h685 n0 zs686 (((A678.ext E681).wr W683).wr W685) (((F678_value.ext E681).other W683 (Or.inl (own_ne (A678).lt (Nat.le_of_eq g681.symm)))).other W685 (Or.inl (own_ne (A678).lt (Nat.le_of_eq g681.symm)))) (((F678_coder.ext E681).other W683 (Or.inl (own_ne (A678).lt (Nat.le_of_eq g681.symm)))).other W685 (Or.inl (own_ne (A678).lt (Nat.le_of_eq g681.symm)))) V685 g_b678 (own_ne (A678).lt (Nat.le_of_eq g681.symm)) od686 ⟨SCS, hcs⟩ (own_nc8 c8_z669) (own_nc8 c8_z671)) d0_102 [(.ref b681)] [(.ref b678)] own_pd12 rfl rfl 1 (Nat.le_refl _) rfl (by decide) (fun v687 T687 L687 h687 e687' X687 hQ687 => ?_)
  obtain ⟨t687, k687, rfl, N687q, K687, Fv687, Fc687, V687⟩ := hQ687
  have N687 := Fr.app N685 N687q
  have zs688 := Nat.le_trans zs686 K687.1
  have hk688 := Nat.le_trans hk686 K687.1
  have od688 := od686.keep K687 (allS g_b678 all0)
  refine own_nn (own_as X687 q d0_105 rfl (l' := #[.val (.int p1), .val (.int p2), .val (.int p3), .val (.int p4), .val (.int p5), .val v'2, .val (.int z669), .val (.int z671), .val (.int z673), .val (.int z675), .val (.ref b678), .unset]) rfl (own_gt X687 q d0_107 (own_k X687 q d0_178 (own_is X687 q d0_179 (l' := #[.val (.int p1), .val (.int p2), .val (.int p3), .val (.int p4), .val (.int p5), .val v'2, .val (.int z669), .val (.int z671), .val (.int z673), .val (.int z675), .val (.ref b678), .val v'0]) rfl (own_il X687 q d0_181 rfl (own_zn X687 q d0_183 (((if0 _ _).trans (tlt ((by decide) : (0 : Int32) < (2 : Int32))).2.2.2)) (own_il X687 q d0_186 rfl ?_)))))))
  refine own_cS X687 q hZ e687' hown hml (W 81 rfl) (W 82 rfl) (W 3 rfl) (W 83 rfl) (rm18 l Z a0 hw z669 h687 n0 zs688) d0_188 [(.int z669)] [] own_pd14 rfl rfl 0 (Nat.le_refl _) (by decide) (fun v689 T689 L689 X689 hQ689 => ?_)
  obtain ⟨z689, rfl, N689q, e689, hM689⟩ := hQ689
  have N689 := Fr.app N687 N689q
  refine own_nv ?_
  by_cases hc191_690 : z689 = (0 : Int32)
  ·refine own_zy X689 q d0_191 (((if0 _ _).trans (teq hc191_690).1)) (own_il X689 q d0_197 rfl (own_k X689 q d0_199 (own_cn X689 q d0_200 ((tlt ((by decide) : (1 : Int32) < (2 : Int32))).2.2.2) (own_il X689 q d0_203 rfl ?_))))
   refine own_cS X689 q hZ e689 hown hml (W 81 rfl) (W 82 rfl) (W 3 rfl) (W 83 rfl) (rm18 l Z a0 hw z671 h687 n0 zs688) d0_205 [(.int z671)] [] own_pd14 rfl rfl 0 (Nat.le_refl _) (by decide) (fun v691 T691 L691 X691 hQ691 => ?_)
   obtain ⟨z691, rfl, N691q, e691, hM691⟩ := hQ691
   have N691 := Fr.app N689 N691q
   refine own_nv ?_
   by_cases hc208_692 : z691 = (0 : Int32)
   ·refine own_zy X691 q d0_208 (((if0 _ _).trans (teq hc208_692).1)) (own_il X691 q d0_214 rfl (own_k X691 q d0_216 (own_cy X691 q d0_217 ((flt (Int32.lt_irrefl : ¬ ((2 : Int32) < (2 : Int32)))).2.2.2) (own_il X691 q d0_231 rfl (own_k X691 q d0_233 (own_cy X691 q d0_234 ((flt ((by decide) : ¬ ((3 : Int32) < (2 : Int32)))).2.2.2) (own_al X691 q d0_248 rfl rfl ?_)))))))
    refine own_cS X691 q hZ e691 hown hml (W 27 rfl) (W 28 rfl) (W 29 rfl) (W 30 rfl) (rm5_2 l Z a0 hw b678 t687 k687 (nar .byte ((nar .char z669).toInt8.toInt32)) (nar .byte ((nar .char z671).toInt8.toInt32)) cs0 h687 n0 zs688 ((((A678.ext E681).wr W683).wr W685).keep K687) Fv687 V687 od688 ⟨SCS, hcs⟩ Fc687) d0_250 [(.ref b678)] [] own_pd13 rfl rfl 0 (Nat.le_refl _) (by decide) (fun v693 T693 L693 X693 hQ693 => ?_)
    obtain ⟨z693, rfl, N693q, e693, hP693⟩ := hQ693
    have N693 := Fr.app N691 N693q
    refine own_nv (own_il X693 q d0_253 rfl ?_)
    have hE694 : z693 = (0 : Int32) := by
     have v_z669 := own_w0 hM689 hc191_690
     have v_z671 := own_w0 hM691 hc208_692
     rcases hP693 with ⟨hq, r⟩ | ⟨hq, r⟩
     ·exfalso
      simp only [List.mem_cons, List.not_mem_nil, or_false, own_b42 c8_z669, own_b63 c8_z669, own_b42 c8_z671, own_b63 c8_z671] at r
      rcases r with (r | r) | (r | r)
      ·exact v_z669 (Or.inl r)
      ·exact v_z671 (Or.inl r)
      ·exact v_z669 (Or.inr r)
      ·exact v_z671 (Or.inr r)
     ·exact hq
    refine own_cn X693 q d0_255 ((teq (hE694 : z693 = (0 : Int32))).2) (own_k X693 q d0_258 (own_gt X693 q d0_259 ?_))
    refine own_retNW X693 hS0 (by rw [e693]; exact hk688) hx (t := .boolean) Bd.returns (by simp) (q.d d0_263) hlk ?_ (by decide) (by decide)
    exact ⟨rfl, N693⟩
   ·refine own_zn X691 q d0_208 (((if0 _ _).trans (feq hc208_692).1)) (own_k X691 q d0_211 (own_is X691 q d0_212 (l' := #[.val (.int p1), .val (.int p2), .val (.int p3), .val (.int p4), .val (.int p5), .val v'2, .val (.int z669), .val (.int z671), .val (.int z673), .val (.int z675), .val (.ref b678), .val v'1]) rfl (own_il X691 q d0_214 rfl (own_k X691 q d0_216 (own_cy X691 q d0_217 ((flt (Int32.lt_irrefl : ¬ ((2 : Int32) < (2 : Int32)))).2.2.2) (own_il X691 q d0_231 rfl (own_k X691 q d0_233 (own_cy X691 q d0_234 ((flt ((by decide) : ¬ ((3 : Int32) < (2 : Int32)))).2.2.2) (own_al X691 q d0_248 rfl rfl ?_)))))))))
    refine own_cS X691 q hZ e691 hown hml (W 27 rfl) (W 28 rfl) (W 29 rfl) (W 30 rfl) (rm5_2 l Z a0 hw b678 t687 k687 (nar .byte ((nar .char z669).toInt8.toInt32)) (nar .byte ((nar .char z671).toInt8.toInt32)) cs0 h687 n0 zs688 ((((A678.ext E681).wr W683).wr W685).keep K687) Fv687 V687 od688 ⟨SCS, hcs⟩ Fc687) d0_250 [(.ref b678)] [] own_pd13 rfl rfl 0 (Nat.le_refl _) (by decide) (fun v695 T695 L695 X695 hQ695 => ?_)
    obtain ⟨z695, rfl, N695q, e695, hP695⟩ := hQ695
    have N695 := Fr.app N691 N695q
    refine own_nv (own_il X695 q d0_253 rfl ?_)
    have hE696 : z695 = (1 : Int32) := by
     have v_z669 := own_w0 hM689 hc191_690
     have v_z671 := own_w1 hM691 hc208_692
     rcases hP695 with ⟨hq, r⟩ | ⟨hq, r⟩
     ·exact hq
     ·exfalso
      simp only [List.mem_cons, List.not_mem_nil, or_false, own_b42 c8_z669, own_b63 c8_z669, own_b42 c8_z671, own_b63 c8_z671] at r
      rcases v_z671 with q | q
      ·exact r (Or.inl (Or.inr q))
      ·exact r (Or.inr (Or.inr q))
    refine own_cn X695 q d0_255 ((teq (hE696 : z695 = (1 : Int32))).2) (own_k X695 q d0_258 (own_gt X695 q d0_259 ?_))
    refine own_retNW X695 hS0 (by rw [e695]; exact hk688) hx (t := .boolean) Bd.returns (by simp) (q.d d0_263) hlk ?_ (by decide) (by decide)
    exact ⟨rfl, N695⟩
  ·refine own_zn X689 q d0_191 (((if0 _ _).trans (feq hc191_690).1)) (own_k X689 q d0_194 (own_is X689 q d0_195 (l' := #[.val (.int p1), .val (.int p2), .val (.int p3), .val (.int p4), .val (.int p5), .val v'2, .val (.int z669), .val (.int z671), .val (.int z673), .val (.int z675), .val (.ref b678), .val v'1]) rfl (own_il X689 q d0_197 rfl (own_k X689 q d0_199 (own_cn X689 q d0_200 ((tlt ((by decide) : (1 : Int32) < (2 : Int32))).2.2.2) (own_il X689 q d0_203 rfl ?_))))))
   refine own_cS X689 q hZ e689 hown hml (W 81 rfl) (W 82 rfl) (W 3 rfl) (W 83 rfl) (rm18 l Z a0 hw z671 h687 n0 zs688) d0_205 [(.int z671)] [] own_pd14 rfl rfl 0 (Nat.le_refl _) (by decide) (fun v697 T697 L697 X697 hQ697 => ?_)
   obtain ⟨z697, rfl, N697q, e697, hM697⟩ := hQ697
   have N697 := Fr.app N689 N697q
   refine own_nv ?_
   by_cases hc208_698 : z697 = (0 : Int32)
   ·refine own_zy X697 q d0_208 (((if0 _ _).trans (teq hc208_698).1)) (own_il X697 q d0_214 rfl (own_k X697 q d0_216 (own_cy X697 q d0_217 ((flt (Int32.lt_irrefl : ¬ ((2 : Int32) < (2 : Int32)))).2.2.2) (own_il X697 q d0_231 rfl (own_k X697 q d0_233 (own_cy X697 q d0_234 ((flt ((by decide) : ¬ ((3 : Int32) < (2 : Int32)))).2.2.2) (own_al X697 q d0_248 rfl rfl ?_)))))))
    refine own_cS X697 q hZ e697 hown hml (W 27 rfl) (W 28 rfl) (W 29 rfl) (W 30 rfl) (rm5_2 l Z a0 hw b678 t687 k687 (nar .byte ((nar .char z669).toInt8.toInt32)) (nar .byte ((nar .char z671).toInt8.toInt32)) cs0 h687 n0 zs688 ((((A678.ext E681).wr W683).wr W685).keep K687) Fv687 V687 od688 ⟨SCS, hcs⟩ Fc687) d0_250 [(.ref b678)] [] own_pd13 rfl rfl 0 (Nat.le_refl _) (by decide) (fun v699 T699 L699 X699 hQ699 => ?_)
    obtain ⟨z699, rfl, N699q, e699, hP699⟩ := hQ699
    have N699 := Fr.app N697 N699q
    refine own_nv (own_il X699 q d0_253 rfl ?_)
    have hE700 : z699 = (1 : Int32) := by
     have v_z669 := own_w1 hM689 hc191_690
     have v_z671 := own_w0 hM697 hc208_698
     rcases hP699 with ⟨hq, r⟩ | ⟨hq, r⟩
     ·exact hq
     ·exfalso
      simp only [List.mem_cons, List.not_mem_nil, or_false, own_b42 c8_z669, own_b63 c8_z669, own_b42 c8_z671, own_b63 c8_z671] at r
      rcases v_z669 with q | q
      ·exact r (Or.inl (Or.inl q))
      ·exact r (Or.inr (Or.inl q))
    refine own_cn X699 q d0_255 ((teq (hE700 : z699 = (1 : Int32))).2) (own_k X699 q d0_258 (own_gt X699 q d0_259 ?_))
    refine own_retNW X699 hS0 (by rw [e699]; exact hk688) hx (t := .boolean) Bd.returns (by simp) (q.d d0_263) hlk ?_ (by decide) (by decide)
    exact ⟨rfl, N699⟩
   ·refine own_zn X697 q d0_208 (((if0 _ _).trans (feq hc208_698).1)) (own_k X697 q d0_211 (own_is X697 q d0_212 (l' := #[.val (.int p1), .val (.int p2), .val (.int p3), .val (.int p4), .val (.int p5), .val v'2, .val (.int z669), .val (.int z671), .val (.int z673), .val (.int z675), .val (.ref b678), .val v'1]) rfl (own_il X697 q d0_214 rfl (own_k X697 q d0_216 (own_cy X697 q d0_217 ((flt (Int32.lt_irrefl : ¬ ((2 : Int32) < (2 : Int32)))).2.2.2) (own_il X697 q d0_231 rfl (own_k X697 q d0_233 (own_cy X697 q d0_234 ((flt ((by decide) : ¬ ((3 : Int32) < (2 : Int32)))).2.2.2) (own_al X697 q d0_248 rfl rfl ?_)))))))))
    refine own_cS X697 q hZ e697 hown hml (W 27 rfl) (W 28 rfl) (W 29 rfl) (W 30 rfl) (rm5_2 l Z a0 hw b678 t687 k687 (nar .byte ((nar .char z669).toInt8.toInt32)) (nar .byte ((nar .char z671).toInt8.toInt32)) cs0 h687 n0 zs688 ((((A678.ext E681).wr W683).wr W685).keep K687) Fv687 V687 od688 ⟨SCS, hcs⟩ Fc687) d0_250 [(.ref b678)] [] own_pd13 rfl rfl 0 (Nat.le_refl _) (by decide) (fun v701 T701 L701 X701 hQ701 => ?_)
    obtain ⟨z701, rfl, N701q, e701, hP701⟩ := hQ701
    have N701 := Fr.app N697 N701q
    refine own_nv (own_il X701 q d0_253 rfl ?_)
    have hE702 : z701 = (1 : Int32) := by
     have v_z669 := own_w1 hM689 hc191_690
     have v_z671 := own_w1 hM697 hc208_698
     rcases hP701 with ⟨hq, r⟩ | ⟨hq, r⟩
     ·exact hq
     ·exfalso
      simp only [List.mem_cons, List.not_mem_nil, or_false, own_b42 c8_z669, own_b63 c8_z669, own_b42 c8_z671, own_b63 c8_z671] at r
      rcases v_z669 with q | q
      ·exact r (Or.inl (Or.inl q))
      ·exact r (Or.inr (Or.inl q))
    refine own_cn X701 q d0_255 ((teq (hE702 : z701 = (1 : Int32))).2) (own_k X701 q d0_258 (own_gt X701 q d0_259 ?_))
    refine own_retNW X701 hS0 (by rw [e701]; exact hk688) hx (t := .boolean) Bd.returns (by simp) (q.d d0_263) hlk ?_ (by decide) (by decide)
    exact ⟨rfl, N701⟩
 ·rw [hl]
  show own_Fin _ _ _ _ (s₁.setTop (mkF m 6 #[.val (.int p1), .val (.int p2), .val (.int p3), .val (.int p4), .val (.int p5), .unset, .unset, .unset, .unset, .unset, .unset, .unset] [v'3]))
  refine own_is X0 q d0_6 (l' := #[.val (.int p1), .val (.int p2), .val (.int p3), .val (.int p4), .val (.int p5), .val v'3, .unset, .unset, .unset, .unset, .unset, .unset]) rfl (own_iln X0 q d0_8 rfl ?_)
  obtain ⟨z703, hz703⟩ : ∃ z, own_draw p2 = z := ⟨_, rfl⟩
  refine own_cS X0 q hZ e0 hown hml (W 1 rfl) (W 2 rfl) (W 3 rfl) (W 4 rfl) (rm1 l Z a0 hw p2 z703 h0 n0 Z0 hz703) d0_9 [(.int p2)] [] own_pd11 rfl rfl 0 (Nat.le_refl _) (by decide) (fun v704 T704 L704 X704 hQ704 => ?_)
  obtain ⟨rfl, N704q, e704⟩ := hQ704
  have N704 := Fr.app N0 N704q
  refine own_nv (own_is X704 q d0_12 (l' := #[.val (.int p1), .val (.int p2), .val (.int p3), .val (.int p4), .val (.int p5), .val v'3, .val (.int z703), .unset, .unset, .unset, .unset, .unset]) rfl (own_iln X704 q d0_14 rfl ?_))
  obtain ⟨z705, hz705⟩ : ∃ z, own_draw p3 = z := ⟨_, rfl⟩
  refine own_cS X704 q hZ e704 hown hml (W 1 rfl) (W 2 rfl) (W 3 rfl) (W 4 rfl) (rm1 l Z a0 hw p3 z705 h0 n0 Z0 hz705) d0_15 [(.int p3)] [] own_pd11 rfl rfl 0 (Nat.le_refl _) (by decide) (fun v706 T706 L706 X706 hQ706 => ?_)
  obtain ⟨rfl, N706q, e706⟩ := hQ706
  have N706 := Fr.app N704 N706q
  refine own_nv (own_is X706 q d0_18 (l' := #[.val (.int p1), .val (.int p2), .val (.int p3), .val (.int p4), .val (.int p5), .val v'3, .val (.int z703), .val (.int z705), .unset, .unset, .unset, .unset]) rfl (own_iln X706 q d0_20 rfl ?_))
  obtain ⟨z707, hz707⟩ : ∃ z, own_draw p4 = z := ⟨_, rfl⟩
  refine own_cS X706 q hZ e706 hown hml (W 1 rfl) (W 2 rfl) (W 3 rfl) (W 4 rfl) (rm1 l Z a0 hw p4 z707 h0 n0 Z0 hz707) d0_21 [(.int p4)] [] own_pd11 rfl rfl 0 (Nat.le_refl _) (by decide) (fun v708 T708 L708 X708 hQ708 => ?_)
  obtain ⟨rfl, N708q, e708⟩ := hQ708
  have N708 := Fr.app N706 N708q
  refine own_nv (own_is X708 q d0_24 (l' := #[.val (.int p1), .val (.int p2), .val (.int p3), .val (.int p4), .val (.int p5), .val v'3, .val (.int z703), .val (.int z705), .val (.int z707), .unset, .unset, .unset]) rfl (own_il X708 q d0_26 rfl ?_))
  obtain ⟨z709, hz709⟩ : ∃ z, own_draw p5 = z := ⟨_, rfl⟩
  refine own_cS X708 q hZ e708 hown hml (W 1 rfl) (W 2 rfl) (W 3 rfl) (W 4 rfl) (rm1 l Z a0 hw p5 z709 h0 n0 Z0 hz709) d0_28 [(.int p5)] [] own_pd11 rfl rfl 0 (Nat.le_refl _) (by decide) (fun v710 T710 L710 X710 hQ710 => ?_)
  obtain ⟨rfl, N710q, e710⟩ := hQ710
  have N710 := Fr.app N708 N710q
  refine own_nv (own_is X710 q d0_31 (l' := #[.val (.int p1), .val (.int p2), .val (.int p3), .val (.int p4), .val (.int p5), .val v'3, .val (.int z703), .val (.int z705), .val (.int z707), .val (.int z709), .unset, .unset]) rfl ?_)
  have c8_z703 := own_d8 hz703
  have c8_z705 := own_d8 hz705
  have c8_z707 := own_d8 hz707
  have c8_z709 := own_d8 hz709
  refine own_il X710 q d0_33 rfl (own_zy X710 q d0_35 (((if0 _ _).trans (feq ((by decide) : ¬ ((3 : Int32) = (0 : Int32)))).2)) (own_il X710 q d0_53 rfl (own_k X710 q d0_55 (own_cy X710 q d0_56 ((feq ((by decide) : ¬ ((3 : Int32) = (1 : Int32)))).2) (own_il X710 q d0_79 rfl (own_k X710 q d0_81 (own_cy X710 q d0_82 ((feq ((by decide) : ¬ ((3 : Int32) = (2 : Int32)))).2) (own_il X710 q d0_110 rfl (own_k X710 q d0_112 (own_cn X710 q d0_113 ((teq (rfl : (3 : Int32) = (3 : Int32))).2) ?_))))))))))
  refine own_let ?_; intro g711_
  obtain ⟨T712, h712, X712, e712, E712, A712, D712, -, st712⟩ := newO X710 hx hZ hown (W 5 rfl) (W 6 rfl) (W 7 rfl) e710 (g := g711_) rfl (q.d d0_116) (by decide) (by decide)
  obtain ⟨b712, g712⟩ : ∃ z, z = h0.size := ⟨_, rfl⟩
  rw [← g712] at A712 D712 st712
  have zs713 := Nat.le_trans Z0 E712.1
  have hk713 := Nat.le_trans hk0 E712.1
  have od713 := O0.ext E712
  have g_b712 : n0 ≤ b712 := Nat.le_trans Z0 (Nat.le_of_eq g712.symm)
  have F712_value : F'1 Z h712 b712 .null := D712 (Or.inr (W 21 rfl)) (ty := (.array .byte)) (by decide)
  have F712_coder : F'0 Z h712 b712 v'0 := D712 (Or.inr (W 22 rfl)) (ty := .byte) (by decide)
  refine own_stq 119 [(.ref b712)] st712 (own_dp X712 q d0_119 rfl (own_k X712 q d0_120 ?_))
  refine own_let ?_; intro g714_
  obtain ⟨T715, h715, k715, X715, e715, E715, A715, st715⟩ := newP X712 hx hZ (W 8 rfl) e712 (g := g714_) rfl (q.d d0_121) rfl (by decide) (cap := 3) (by decide) (by decide) (by decide) (by decide)
  obtain ⟨b715, g715⟩ : ∃ z, z = h712.size := ⟨_, rfl⟩
  rw [← g715] at A715 st715
  have V715 : Arv Z h715 b715 k715 .char (3 : Int32) [v'0, v'0, v'0] v'0 := (Arv.new A715 (by decide)).pad (pad_rep [] v'0 3)
  have zs716 := Nat.le_trans zs713 E715.1
  have hk716 := Nat.le_trans hk713 E715.1
  have od716 := od713.ext E715
  have g_b715 : n0 ≤ b715 := Nat.le_trans zs713 (Nat.le_of_eq g715.symm)
  refine own_stp 123 st715 (own_dp X715 q d0_123 rfl (own_k X715 q d0_124 (own_il X715 q d0_125 rfl ?_)))
  refine own_cst X715 q hZ e715 V715 d0_127 (by decide) (Nat.le_of_ble_eq_true rfl) N710 g_b715 fun T717 h717 X717 e717 W717 V717 N717 => ?_
  have zs718 := Nat.le_trans zs716 (Keep.of_wr W717).1
  have hk718 := Nat.le_trans hk716 (Keep.of_wr W717).1
  have od718 := od716.wr W717 g_b715
  refine own_dp X717 q d0_128 rfl (own_k X717 q d0_129 (own_il X717 q d0_130 rfl ?_))
  refine own_cst X717 q hZ e717 V717 d0_132 (by decide) (Nat.le_of_ble_eq_true rfl) N717 g_b715 fun T719 h719 X719 e719 W719 V719 N719 => ?_
  have zs720 := Nat.le_trans zs718 (Keep.of_wr W719).1
  have hk720 := Nat.le_trans hk718 (Keep.of_wr W719).1
  have od720 := od718.wr W719 g_b715
  refine own_dp X719 q d0_133 rfl (own_k X719 q d0_134 (own_il X719 q d0_135 rfl ?_))
  refine own_cst X719 q hZ e719 V719 d0_137 (by decide) (Nat.le_of_ble_eq_true rfl) N719 g_b715 fun T721 h721 X721 e721 W721 V721 N721 => ?_
  have zs722 := Nat.le_trans zs720 (Keep.of_wr W721).1
  have hk722 := Nat.le_trans hk720 (Keep.of_wr W721).1
  have od722 := od720.wr W721 g_b715
  refine own_cIh (a := b712) X721 q hZ e721 hown hml (W 9 rfl) (W 10 rfl) (W 7 rfl) (W 11 rfl) (rm2_3 l Z a0 hw b712 b715 k715 (nar .char z703) (nar .char z705) (nar .char z707) cs0 h721 n0 zs722 ((((A712.ext E715).wr W717).wr W719).wr W721) ((((F712_value.ext E715).other W717 (Or.inl (own_ne (A712).lt (Nat.le_of_eq g715.symm)))).other W719 (Or.inl (own_ne (A712).lt (Nat.le_of_eq g715.symm)))).other W721 (Or.inl (own_ne (A712).lt (Nat.le_of_eq g715.symm)))) ((((F712_coder.ext E715).other W717 (Or.inl (own_ne (A712).lt (Nat.le_of_eq g715.symm)))).other W719 (Or.inl (own_ne (A712).lt (Nat.le_of_eq g715.symm)))).other W721 (Or.inl (own_ne (A712).lt (Nat.le_of_eq g715.symm)))) V721 g_b712 (own_ne (A712).lt (Nat.le_of_eq g715.symm)) od722 ⟨SCS, hcs⟩ (own_nc8 c8_z703) (own_nc8 c8_z705) (own_nc8 c8_z707)) d0_138 [(.ref b715)] [(.ref b712)] own_pd12 rfl rfl 1 (Nat.le_refl _) rfl (by decide) (fun v723 T723 L723 h723 e723' X723 hQ723 => ?_)
  obtain ⟨t723, k723, rfl, N723q, K723, Fv723, Fc723, V723⟩ := hQ723
  have N723 := Fr.app N721 N723q
  have zs724 := Nat.le_trans zs722 K723.1
  have hk724 := Nat.le_trans hk722 K723.1
  have od724 := od722.keep K723 (allS g_b712 all0)
  refine own_nn (own_as X723 q d0_141 rfl (l' := #[.val (.int p1), .val (.int p2), .val (.int p3), .val (.int p4), .val (.int p5), .val v'3, .val (.int z703), .val (.int z705), .val (.int z707), .val (.int z709), .val (.ref b712), .unset]) rfl (own_gt X723 q d0_143 (own_k X723 q d0_178 (own_is X723 q d0_179 (l' := #[.val (.int p1), .val (.int p2), .val (.int p3), .val (.int p4), .val (.int p5), .val v'3, .val (.int z703), .val (.int z705), .val (.int z707), .val (.int z709), .val (.ref b712), .val v'0]) rfl (own_il X723 q d0_181 rfl (own_zn X723 q d0_183 (((if0 _ _).trans (tlt ((by decide) : (0 : Int32) < (3 : Int32))).2.2.2)) (own_il X723 q d0_186 rfl ?_)))))))
  refine own_cS X723 q hZ e723' hown hml (W 81 rfl) (W 82 rfl) (W 3 rfl) (W 83 rfl) (rm18 l Z a0 hw z703 h723 n0 zs724) d0_188 [(.int z703)] [] own_pd14 rfl rfl 0 (Nat.le_refl _) (by decide) (fun v725 T725 L725 X725 hQ725 => ?_)
  obtain ⟨z725, rfl, N725q, e725, hM725⟩ := hQ725
  have N725 := Fr.app N723 N725q
  refine own_nv ?_
  by_cases hc191_726 : z725 = (0 : Int32)
  ·refine own_zy X725 q d0_191 (((if0 _ _).trans (teq hc191_726).1)) (own_il X725 q d0_197 rfl (own_k X725 q d0_199 (own_cn X725 q d0_200 ((tlt ((by decide) : (1 : Int32) < (3 : Int32))).2.2.2) (own_il X725 q d0_203 rfl ?_))))
   refine own_cS X725 q hZ e725 hown hml (W 81 rfl) (W 82 rfl) (W 3 rfl) (W 83 rfl) (rm18 l Z a0 hw z705 h723 n0 zs724) d0_205 [(.int z705)] [] own_pd14 rfl rfl 0 (Nat.le_refl _) (by decide) (fun v727 T727 L727 X727 hQ727 => ?_)
   obtain ⟨z727, rfl, N727q, e727, hM727⟩ := hQ727
   have N727 := Fr.app N725 N727q
   refine own_nv ?_
   by_cases hc208_728 : z727 = (0 : Int32)
   ·refine own_zy X727 q d0_208 (((if0 _ _).trans (teq hc208_728).1)) (own_il X727 q d0_214 rfl (own_k X727 q d0_216 (own_cn X727 q d0_217 ((tlt ((by decide) : (2 : Int32) < (3 : Int32))).2.2.2) (own_il X727 q d0_220 rfl ?_))))
    refine own_cS X727 q hZ e727 hown hml (W 81 rfl) (W 82 rfl) (W 3 rfl) (W 83 rfl) (rm18 l Z a0 hw z707 h723 n0 zs724) d0_222 [(.int z707)] [] own_pd14 rfl rfl 0 (Nat.le_refl _) (by decide) (fun v729 T729 L729 X729 hQ729 => ?_)
    obtain ⟨z729, rfl, N729q, e729, hM729⟩ := hQ729
    have N729 := Fr.app N727 N729q
    refine own_nv ?_
    by_cases hc225_730 : z729 = (0 : Int32)
    ·refine own_zy X729 q d0_225 (((if0 _ _).trans (teq hc225_730).1)) (own_il X729 q d0_231 rfl (own_k X729 q d0_233 (own_cy X729 q d0_234 ((flt (Int32.lt_irrefl : ¬ ((3 : Int32) < (3 : Int32)))).2.2.2) (own_al X729 q d0_248 rfl rfl ?_))))
     refine own_cS X729 q hZ e729 hown hml (W 27 rfl) (W 28 rfl) (W 29 rfl) (W 30 rfl) (rm5_3 l Z a0 hw b712 t723 k723 (nar .byte ((nar .char z703).toInt8.toInt32)) (nar .byte ((nar .char z705).toInt8.toInt32)) (nar .byte ((nar .char z707).toInt8.toInt32)) cs0 h723 n0 zs724 (((((A712.ext E715).wr W717).wr W719).wr W721).keep K723) Fv723 V723 od724 ⟨SCS, hcs⟩ Fc723) d0_250 [(.ref b712)] [] own_pd13 rfl rfl 0 (Nat.le_refl _) (by decide) (fun v731 T731 L731 X731 hQ731 => ?_)
     obtain ⟨z731, rfl, N731q, e731, hP731⟩ := hQ731
     have N731 := Fr.app N729 N731q
     refine own_nv (own_il X731 q d0_253 rfl ?_)
     have hE732 : z731 = (0 : Int32) := by
      have v_z703 := own_w0 hM725 hc191_726
      have v_z705 := own_w0 hM727 hc208_728
      have v_z707 := own_w0 hM729 hc225_730
      rcases hP731 with ⟨hq, r⟩ | ⟨hq, r⟩
      ·exfalso
       simp only [List.mem_cons, List.not_mem_nil, or_false, own_b42 c8_z703, own_b63 c8_z703, own_b42 c8_z705, own_b63 c8_z705, own_b42 c8_z707, own_b63 c8_z707] at r
       rcases r with (r | r | r) | (r | r | r)
       ·exact v_z703 (Or.inl r)
       ·exact v_z705 (Or.inl r)
       ·exact v_z707 (Or.inl r)
       ·exact v_z703 (Or.inr r)
       ·exact v_z705 (Or.inr r)
       ·exact v_z707 (Or.inr r)
      ·exact hq
     refine own_cn X731 q d0_255 ((teq (hE732 : z731 = (0 : Int32))).2) (own_k X731 q d0_258 (own_gt X731 q d0_259 ?_))
     refine own_retNW X731 hS0 (by rw [e731]; exact hk724) hx (t := .boolean) Bd.returns (by simp) (q.d d0_263) hlk ?_ (by decide) (by decide)
     exact ⟨rfl, N731⟩
    ·refine own_zn X729 q d0_225 (((if0 _ _).trans (feq hc225_730).1)) (own_k X729 q d0_228 (own_is X729 q d0_229 (l' := #[.val (.int p1), .val (.int p2), .val (.int p3), .val (.int p4), .val (.int p5), .val v'3, .val (.int z703), .val (.int z705), .val (.int z707), .val (.int z709), .val (.ref b712), .val v'1]) rfl (own_il X729 q d0_231 rfl (own_k X729 q d0_233 (own_cy X729 q d0_234 ((flt (Int32.lt_irrefl : ¬ ((3 : Int32) < (3 : Int32)))).2.2.2) (own_al X729 q d0_248 rfl rfl ?_))))))
     refine own_cS X729 q hZ e729 hown hml (W 27 rfl) (W 28 rfl) (W 29 rfl) (W 30 rfl) (rm5_3 l Z a0 hw b712 t723 k723 (nar .byte ((nar .char z703).toInt8.toInt32)) (nar .byte ((nar .char z705).toInt8.toInt32)) (nar .byte ((nar .char z707).toInt8.toInt32)) cs0 h723 n0 zs724 (((((A712.ext E715).wr W717).wr W719).wr W721).keep K723) Fv723 V723 od724 ⟨SCS, hcs⟩ Fc723) d0_250 [(.ref b712)] [] own_pd13 rfl rfl 0 (Nat.le_refl _) (by decide) (fun v733 T733 L733 X733 hQ733 => ?_)
     obtain ⟨z733, rfl, N733q, e733, hP733⟩ := hQ733
     have N733 := Fr.app N729 N733q
     refine own_nv (own_il X733 q d0_253 rfl ?_)
     have hE734 : z733 = (1 : Int32) := by
      have v_z703 := own_w0 hM725 hc191_726
      have v_z705 := own_w0 hM727 hc208_728
      have v_z707 := own_w1 hM729 hc225_730
      rcases hP733 with ⟨hq, r⟩ | ⟨hq, r⟩
      ·exact hq
      ·exfalso
       simp only [List.mem_cons, List.not_mem_nil, or_false, own_b42 c8_z703, own_b63 c8_z703, own_b42 c8_z705, own_b63 c8_z705, own_b42 c8_z707, own_b63 c8_z707] at r
       rcases v_z707 with q | q
       ·exact r (Or.inl (Or.inr (Or.inr q)))
       ·exact r (Or.inr (Or.inr (Or.inr q)))
     refine own_cn X733 q d0_255 ((teq (hE734 : z733 = (1 : Int32))).2) (own_k X733 q d0_258 (own_gt X733 q d0_259 ?_))
     refine own_retNW X733 hS0 (by rw [e733]; exact hk724) hx (t := .boolean) Bd.returns (by simp) (q.d d0_263) hlk ?_ (by decide) (by decide)
     exact ⟨rfl, N733⟩
   ·refine own_zn X727 q d0_208 (((if0 _ _).trans (feq hc208_728).1)) (own_k X727 q d0_211 (own_is X727 q d0_212 (l' := #[.val (.int p1), .val (.int p2), .val (.int p3), .val (.int p4), .val (.int p5), .val v'3, .val (.int z703), .val (.int z705), .val (.int z707), .val (.int z709), .val (.ref b712), .val v'1]) rfl (own_il X727 q d0_214 rfl (own_k X727 q d0_216 (own_cn X727 q d0_217 ((tlt ((by decide) : (2 : Int32) < (3 : Int32))).2.2.2) (own_il X727 q d0_220 rfl ?_))))))
    refine own_cS X727 q hZ e727 hown hml (W 81 rfl) (W 82 rfl) (W 3 rfl) (W 83 rfl) (rm18 l Z a0 hw z707 h723 n0 zs724) d0_222 [(.int z707)] [] own_pd14 rfl rfl 0 (Nat.le_refl _) (by decide) (fun v735 T735 L735 X735 hQ735 => ?_)
    obtain ⟨z735, rfl, N735q, e735, hM735⟩ := hQ735
    have N735 := Fr.app N727 N735q
    refine own_nv ?_
    by_cases hc225_736 : z735 = (0 : Int32)
    ·refine own_zy X735 q d0_225 (((if0 _ _).trans (teq hc225_736).1)) (own_il X735 q d0_231 rfl (own_k X735 q d0_233 (own_cy X735 q d0_234 ((flt (Int32.lt_irrefl : ¬ ((3 : Int32) < (3 : Int32)))).2.2.2) (own_al X735 q d0_248 rfl rfl ?_))))
     refine own_cS X735 q hZ e735 hown hml (W 27 rfl) (W 28 rfl) (W 29 rfl) (W 30 rfl) (rm5_3 l Z a0 hw b712 t723 k723 (nar .byte ((nar .char z703).toInt8.toInt32)) (nar .byte ((nar .char z705).toInt8.toInt32)) (nar .byte ((nar .char z707).toInt8.toInt32)) cs0 h723 n0 zs724 (((((A712.ext E715).wr W717).wr W719).wr W721).keep K723) Fv723 V723 od724 ⟨SCS, hcs⟩ Fc723) d0_250 [(.ref b712)] [] own_pd13 rfl rfl 0 (Nat.le_refl _) (by decide) (fun v737 T737 L737 X737 hQ737 => ?_)
     obtain ⟨z737, rfl, N737q, e737, hP737⟩ := hQ737
     have N737 := Fr.app N735 N737q
     refine own_nv (own_il X737 q d0_253 rfl ?_)
     have hE738 : z737 = (1 : Int32) := by
      have v_z703 := own_w0 hM725 hc191_726
      have v_z705 := own_w1 hM727 hc208_728
      have v_z707 := own_w0 hM735 hc225_736
      rcases hP737 with ⟨hq, r⟩ | ⟨hq, r⟩
      ·exact hq
      ·exfalso
       simp only [List.mem_cons, List.not_mem_nil, or_false, own_b42 c8_z703, own_b63 c8_z703, own_b42 c8_z705, own_b63 c8_z705, own_b42 c8_z707, own_b63 c8_z707] at r
       rcases v_z705 with q | q
       ·exact r (Or.inl (Or.inr (Or.inl q)))
       ·exact r (Or.inr (Or.inr (Or.inl q)))
     refine own_cn X737 q d0_255 ((teq (hE738 : z737 = (1 : Int32))).2) (own_k X737 q d0_258 (own_gt X737 q d0_259 ?_))
     refine own_retNW X737 hS0 (by rw [e737]; exact hk724) hx (t := .boolean) Bd.returns (by simp) (q.d d0_263) hlk ?_ (by decide) (by decide)
     exact ⟨rfl, N737⟩
    ·refine own_zn X735 q d0_225 (((if0 _ _).trans (feq hc225_736).1)) (own_k X735 q d0_228 (own_is X735 q d0_229 (l' := #[.val (.int p1), .val (.int p2), .val (.int p3), .val (.int p4), .val (.int p5), .val v'3, .val (.int z703), .val (.int z705), .val (.int z707), .val (.int z709), .val (.ref b712), .val v'1]) rfl (own_il X735 q d0_231 rfl (own_k X735 q d0_233 (own_cy X735 q d0_234 ((flt (Int32.lt_irrefl : ¬ ((3 : Int32) < (3 : Int32)))).2.2.2) (own_al X735 q d0_248 rfl rfl ?_))))))
     refine own_cS X735 q hZ e735 hown hml (W 27 rfl) (W 28 rfl) (W 29 rfl) (W 30 rfl) (rm5_3 l Z a0 hw b712 t723 k723 (nar .byte ((nar .char z703).toInt8.toInt32)) (nar .byte ((nar .char z705).toInt8.toInt32)) (nar .byte ((nar .char z707).toInt8.toInt32)) cs0 h723 n0 zs724 (((((A712.ext E715).wr W717).wr W719).wr W721).keep K723) Fv723 V723 od724 ⟨SCS, hcs⟩ Fc723) d0_250 [(.ref b712)] [] own_pd13 rfl rfl 0 (Nat.le_refl _) (by decide) (fun v739 T739 L739 X739 hQ739 => ?_)
     obtain ⟨z739, rfl, N739q, e739, hP739⟩ := hQ739
     have N739 := Fr.app N735 N739q
     refine own_nv (own_il X739 q d0_253 rfl ?_)
     have hE740 : z739 = (1 : Int32) := by
      have v_z703 := own_w0 hM725 hc191_726
      have v_z705 := own_w1 hM727 hc208_728
      have v_z707 := own_w1 hM735 hc225_736
      rcases hP739 with ⟨hq, r⟩ | ⟨hq, r⟩
      ·exact hq
      ·exfalso
       simp only [List.mem_cons, List.not_mem_nil, or_false, own_b42 c8_z703, own_b63 c8_z703, own_b42 c8_z705, own_b63 c8_z705, own_b42 c8_z707, own_b63 c8_z707] at r
       rcases v_z705 with q | q
       ·exact r (Or.inl (Or.inr (Or.inl q)))
       ·exact r (Or.inr (Or.inr (Or.inl q)))
     refine own_cn X739 q d0_255 ((teq (hE740 : z739 = (1 : Int32))).2) (own_k X739 q d0_258 (own_gt X739 q d0_259 ?_))
     refine own_retNW X739 hS0 (by rw [e739]; exact hk724) hx (t := .boolean) Bd.returns (by simp) (q.d d0_263) hlk ?_ (by decide) (by decide)
     exact ⟨rfl, N739⟩
  ·refine own_zn X725 q d0_191 (((if0 _ _).trans (feq hc191_726).1)) (own_k X725 q d0_194 (own_is X725 q d0_195 (l' := #[.val (.int p1), .val (.int p2), .val (.int p3), .val (.int p4), .val (.int p5), .val v'3, .val (.int z703), .val (.int z705), .val (.int z707), .val (.int z709), .val (.ref b712), .val v'1]) rfl (own_il X725 q d0_197 rfl (own_k X725 q d0_199 (own_cn X725 q d0_200 ((tlt ((by decide) : (1 : Int32) < (3 : Int32))).2.2.2) (own_il X725 q d0_203 rfl ?_))))))
   refine own_cS X725 q hZ e725 hown hml (W 81 rfl) (W 82 rfl) (W 3 rfl) (W 83 rfl) (rm18 l Z a0 hw z705 h723 n0 zs724) d0_205 [(.int z705)] [] own_pd14 rfl rfl 0 (Nat.le_refl _) (by decide) (fun v741 T741 L741 X741 hQ741 => ?_)
   obtain ⟨z741, rfl, N741q, e741, hM741⟩ := hQ741
   have N741 := Fr.app N725 N741q
   refine own_nv ?_
   by_cases hc208_742 : z741 = (0 : Int32)
   ·refine own_zy X741 q d0_208 (((if0 _ _).trans (teq hc208_742).1)) (own_il X741 q d0_214 rfl (own_k X741 q d0_216 (own_cn X741 q d0_217 ((tlt ((by decide) : (2 : Int32) < (3 : Int32))).2.2.2) (own_il X741 q d0_220 rfl ?_))))
    refine own_cS X741 q hZ e741 hown hml (W 81 rfl) (W 82 rfl) (W 3 rfl) (W 83 rfl) (rm18 l Z a0 hw z707 h723 n0 zs724) d0_222 [(.int z707)] [] own_pd14 rfl rfl 0 (Nat.le_refl _) (by decide) (fun v743 T743 L743 X743 hQ743 => ?_)
    obtain ⟨z743, rfl, N743q, e743, hM743⟩ := hQ743
    have N743 := Fr.app N741 N743q
    refine own_nv ?_
    by_cases hc225_744 : z743 = (0 : Int32)
    ·refine own_zy X743 q d0_225 (((if0 _ _).trans (teq hc225_744).1)) (own_il X743 q d0_231 rfl (own_k X743 q d0_233 (own_cy X743 q d0_234 ((flt (Int32.lt_irrefl : ¬ ((3 : Int32) < (3 : Int32)))).2.2.2) (own_al X743 q d0_248 rfl rfl ?_))))
     refine own_cS X743 q hZ e743 hown hml (W 27 rfl) (W 28 rfl) (W 29 rfl) (W 30 rfl) (rm5_3 l Z a0 hw b712 t723 k723 (nar .byte ((nar .char z703).toInt8.toInt32)) (nar .byte ((nar .char z705).toInt8.toInt32)) (nar .byte ((nar .char z707).toInt8.toInt32)) cs0 h723 n0 zs724 (((((A712.ext E715).wr W717).wr W719).wr W721).keep K723) Fv723 V723 od724 ⟨SCS, hcs⟩ Fc723) d0_250 [(.ref b712)] [] own_pd13 rfl rfl 0 (Nat.le_refl _) (by decide) (fun v745 T745 L745 X745 hQ745 => ?_)
     obtain ⟨z745, rfl, N745q, e745, hP745⟩ := hQ745
     have N745 := Fr.app N743 N745q
     refine own_nv (own_il X745 q d0_253 rfl ?_)
     have hE746 : z745 = (1 : Int32) := by
      have v_z703 := own_w1 hM725 hc191_726
      have v_z705 := own_w0 hM741 hc208_742
      have v_z707 := own_w0 hM743 hc225_744
      rcases hP745 with ⟨hq, r⟩ | ⟨hq, r⟩
      ·exact hq
      ·exfalso
       simp only [List.mem_cons, List.not_mem_nil, or_false, own_b42 c8_z703, own_b63 c8_z703, own_b42 c8_z705, own_b63 c8_z705, own_b42 c8_z707, own_b63 c8_z707] at r
       rcases v_z703 with q | q
       ·exact r (Or.inl (Or.inl q))
       ·exact r (Or.inr (Or.inl q))
     refine own_cn X745 q d0_255 ((teq (hE746 : z745 = (1 : Int32))).2) (own_k X745 q d0_258 (own_gt X745 q d0_259 ?_))
     refine own_retNW X745 hS0 (by rw [e745]; exact hk724) hx (t := .boolean) Bd.returns (by simp) (q.d d0_263) hlk ?_ (by decide) (by decide)
     exact ⟨rfl, N745⟩
    ·refine own_zn X743 q d0_225 (((if0 _ _).trans (feq hc225_744).1)) (own_k X743 q d0_228 (own_is X743 q d0_229 (l' := #[.val (.int p1), .val (.int p2), .val (.int p3), .val (.int p4), .val (.int p5), .val v'3, .val (.int z703), .val (.int z705), .val (.int z707), .val (.int z709), .val (.ref b712), .val v'1]) rfl (own_il X743 q d0_231 rfl (own_k X743 q d0_233 (own_cy X743 q d0_234 ((flt (Int32.lt_irrefl : ¬ ((3 : Int32) < (3 : Int32)))).2.2.2) (own_al X743 q d0_248 rfl rfl ?_))))))
     refine own_cS X743 q hZ e743 hown hml (W 27 rfl) (W 28 rfl) (W 29 rfl) (W 30 rfl) (rm5_3 l Z a0 hw b712 t723 k723 (nar .byte ((nar .char z703).toInt8.toInt32)) (nar .byte ((nar .char z705).toInt8.toInt32)) (nar .byte ((nar .char z707).toInt8.toInt32)) cs0 h723 n0 zs724 (((((A712.ext E715).wr W717).wr W719).wr W721).keep K723) Fv723 V723 od724 ⟨SCS, hcs⟩ Fc723) d0_250 [(.ref b712)] [] own_pd13 rfl rfl 0 (Nat.le_refl _) (by decide) (fun v747 T747 L747 X747 hQ747 => ?_)
     obtain ⟨z747, rfl, N747q, e747, hP747⟩ := hQ747
     have N747 := Fr.app N743 N747q
     refine own_nv (own_il X747 q d0_253 rfl ?_)
     have hE748 : z747 = (1 : Int32) := by
      have v_z703 := own_w1 hM725 hc191_726
      have v_z705 := own_w0 hM741 hc208_742
      have v_z707 := own_w1 hM743 hc225_744
      rcases hP747 with ⟨hq, r⟩ | ⟨hq, r⟩
      ·exact hq
      ·exfalso
       simp only [List.mem_cons, List.not_mem_nil, or_false, own_b42 c8_z703, own_b63 c8_z703, own_b42 c8_z705, own_b63 c8_z705, own_b42 c8_z707, own_b63 c8_z707] at r
       rcases v_z703 with q | q
       ·exact r (Or.inl (Or.inl q))
       ·exact r (Or.inr (Or.inl q))
     refine own_cn X747 q d0_255 ((teq (hE748 : z747 = (1 : Int32))).2) (own_k X747 q d0_258 (own_gt X747 q d0_259 ?_))
     refine own_retNW X747 hS0 (by rw [e747]; exact hk724) hx (t := .boolean) Bd.returns (by simp) (q.d d0_263) hlk ?_ (by decide) (by decide)
     exact ⟨rfl, N747⟩
   ·refine own_zn X741 q d0_208 (((if0 _ _).trans (feq hc208_742).1)) (own_k X741 q d0_211 (own_is X741 q d0_212 (l' := #[.val (.int p1), .val (.int p2), .val (.int p3), .val (.int p4), .val (.int p5), .val v'3, .val (.int z703), .val (.int z705), .val (.int z707), .val (.int z709), .val (.ref b712), .val v'1]) rfl (own_il X741 q d0_214 rfl (own_k X741 q d0_216 (own_cn X741 q d0_217 ((tlt ((by decide) : (2 : Int32) < (3 : Int32))).2.2.2) (own_il X741 q d0_220 rfl ?_))))))
    refine own_cS X741 q hZ e741 hown hml (W 81 rfl) (W 82 rfl) (W 3 rfl) (W 83 rfl) (rm18 l Z a0 hw z707 h723 n0 zs724) d0_222 [(.int z707)] [] own_pd14 rfl rfl 0 (Nat.le_refl _) (by decide) (fun v749 T749 L749 X749 hQ749 => ?_)
    obtain ⟨z749, rfl, N749q, e749, hM749⟩ := hQ749
    have N749 := Fr.app N741 N749q
    refine own_nv ?_
    by_cases hc225_750 : z749 = (0 : Int32)
    ·refine own_zy X749 q d0_225 (((if0 _ _).trans (teq hc225_750).1)) (own_il X749 q d0_231 rfl (own_k X749 q d0_233 (own_cy X749 q d0_234 ((flt (Int32.lt_irrefl : ¬ ((3 : Int32) < (3 : Int32)))).2.2.2) (own_al X749 q d0_248 rfl rfl ?_))))
     refine own_cS X749 q hZ e749 hown hml (W 27 rfl) (W 28 rfl) (W 29 rfl) (W 30 rfl) (rm5_3 l Z a0 hw b712 t723 k723 (nar .byte ((nar .char z703).toInt8.toInt32)) (nar .byte ((nar .char z705).toInt8.toInt32)) (nar .byte ((nar .char z707).toInt8.toInt32)) cs0 h723 n0 zs724 (((((A712.ext E715).wr W717).wr W719).wr W721).keep K723) Fv723 V723 od724 ⟨SCS, hcs⟩ Fc723) d0_250 [(.ref b712)] [] own_pd13 rfl rfl 0 (Nat.le_refl _) (by decide) (fun v751 T751 L751 X751 hQ751 => ?_)
     obtain ⟨z751, rfl, N751q, e751, hP751⟩ := hQ751
     have N751 := Fr.app N749 N751q
     refine own_nv (own_il X751 q d0_253 rfl ?_)
     have hE752 : z751 = (1 : Int32) := by
      have v_z703 := own_w1 hM725 hc191_726
      have v_z705 := own_w1 hM741 hc208_742
      have v_z707 := own_w0 hM749 hc225_750
      rcases hP751 with ⟨hq, r⟩ | ⟨hq, r⟩
      ·exact hq
      ·exfalso
       simp only [List.mem_cons, List.not_mem_nil, or_false, own_b42 c8_z703, own_b63 c8_z703, own_b42 c8_z705, own_b63 c8_z705, own_b42 c8_z707, own_b63 c8_z707] at r
       rcases v_z703 with q | q
       ·exact r (Or.inl (Or.inl q))
       ·exact r (Or.inr (Or.inl q))
     refine own_cn X751 q d0_255 ((teq (hE752 : z751 = (1 : Int32))).2) (own_k X751 q d0_258 (own_gt X751 q d0_259 ?_))
     refine own_retNW X751 hS0 (by rw [e751]; exact hk724) hx (t := .boolean) Bd.returns (by simp) (q.d d0_263) hlk ?_ (by decide) (by decide)
     exact ⟨rfl, N751⟩
    ·refine own_zn X749 q d0_225 (((if0 _ _).trans (feq hc225_750).1)) (own_k X749 q d0_228 (own_is X749 q d0_229 (l' := #[.val (.int p1), .val (.int p2), .val (.int p3), .val (.int p4), .val (.int p5), .val v'3, .val (.int z703), .val (.int z705), .val (.int z707), .val (.int z709), .val (.ref b712), .val v'1]) rfl (own_il X749 q d0_231 rfl (own_k X749 q d0_233 (own_cy X749 q d0_234 ((flt (Int32.lt_irrefl : ¬ ((3 : Int32) < (3 : Int32)))).2.2.2) (own_al X749 q d0_248 rfl rfl ?_))))))
     refine own_cS X749 q hZ e749 hown hml (W 27 rfl) (W 28 rfl) (W 29 rfl) (W 30 rfl) (rm5_3 l Z a0 hw b712 t723 k723 (nar .byte ((nar .char z703).toInt8.toInt32)) (nar .byte ((nar .char z705).toInt8.toInt32)) (nar .byte ((nar .char z707).toInt8.toInt32)) cs0 h723 n0 zs724 (((((A712.ext E715).wr W717).wr W719).wr W721).keep K723) Fv723 V723 od724 ⟨SCS, hcs⟩ Fc723) d0_250 [(.ref b712)] [] own_pd13 rfl rfl 0 (Nat.le_refl _) (by decide) (fun v753 T753 L753 X753 hQ753 => ?_)
     obtain ⟨z753, rfl, N753q, e753, hP753⟩ := hQ753
     have N753 := Fr.app N749 N753q
     refine own_nv (own_il X753 q d0_253 rfl ?_)
     have hE754 : z753 = (1 : Int32) := by
      have v_z703 := own_w1 hM725 hc191_726
      have v_z705 := own_w1 hM741 hc208_742
      have v_z707 := own_w1 hM749 hc225_750
      rcases hP753 with ⟨hq, r⟩ | ⟨hq, r⟩
      ·exact hq
      ·exfalso
       simp only [List.mem_cons, List.not_mem_nil, or_false, own_b42 c8_z703, own_b63 c8_z703, own_b42 c8_z705, own_b63 c8_z705, own_b42 c8_z707, own_b63 c8_z707] at r
       rcases v_z703 with q | q
       ·exact r (Or.inl (Or.inl q))
       ·exact r (Or.inr (Or.inl q))
     refine own_cn X753 q d0_255 ((teq (hE754 : z753 = (1 : Int32))).2) (own_k X753 q d0_258 (own_gt X753 q d0_259 ?_))
     refine own_retNW X753 hS0 (by rw [e753]; exact hk724) hx (t := .boolean) Bd.returns (by simp) (q.d d0_263) hlk ?_ (by decide) (by decide)
     exact ⟨rfl, N753⟩
 ·rw [hl]
  show own_Fin _ _ _ _ (s₁.setTop (mkF m 6 #[.val (.int p1), .val (.int p2), .val (.int p3), .val (.int p4), .val (.int p5), .unset, .unset, .unset, .unset, .unset, .unset, .unset] [v'4]))
  refine own_is X0 q d0_6 (l' := #[.val (.int p1), .val (.int p2), .val (.int p3), .val (.int p4), .val (.int p5), .val v'4, .unset, .unset, .unset, .unset, .unset, .unset]) rfl (own_iln X0 q d0_8 rfl ?_)
  obtain ⟨z755, hz755⟩ : ∃ z, own_draw p2 = z := ⟨_, rfl⟩
  refine own_cS X0 q hZ e0 hown hml (W 1 rfl) (W 2 rfl) (W 3 rfl) (W 4 rfl) (rm1 l Z a0 hw p2 z755 h0 n0 Z0 hz755) d0_9 [(.int p2)] [] own_pd11 rfl rfl 0 (Nat.le_refl _) (by decide) (fun v756 T756 L756 X756 hQ756 => ?_)
  obtain ⟨rfl, N756q, e756⟩ := hQ756
  have N756 := Fr.app N0 N756q
  refine own_nv (own_is X756 q d0_12 (l' := #[.val (.int p1), .val (.int p2), .val (.int p3), .val (.int p4), .val (.int p5), .val v'4, .val (.int z755), .unset, .unset, .unset, .unset, .unset]) rfl (own_iln X756 q d0_14 rfl ?_))
  obtain ⟨z757, hz757⟩ : ∃ z, own_draw p3 = z := ⟨_, rfl⟩
  refine own_cS X756 q hZ e756 hown hml (W 1 rfl) (W 2 rfl) (W 3 rfl) (W 4 rfl) (rm1 l Z a0 hw p3 z757 h0 n0 Z0 hz757) d0_15 [(.int p3)] [] own_pd11 rfl rfl 0 (Nat.le_refl _) (by decide) (fun v758 T758 L758 X758 hQ758 => ?_)
  obtain ⟨rfl, N758q, e758⟩ := hQ758
  have N758 := Fr.app N756 N758q
  refine own_nv (own_is X758 q d0_18 (l' := #[.val (.int p1), .val (.int p2), .val (.int p3), .val (.int p4), .val (.int p5), .val v'4, .val (.int z755), .val (.int z757), .unset, .unset, .unset, .unset]) rfl (own_iln X758 q d0_20 rfl ?_))
  obtain ⟨z759, hz759⟩ : ∃ z, own_draw p4 = z := ⟨_, rfl⟩
  refine own_cS X758 q hZ e758 hown hml (W 1 rfl) (W 2 rfl) (W 3 rfl) (W 4 rfl) (rm1 l Z a0 hw p4 z759 h0 n0 Z0 hz759) d0_21 [(.int p4)] [] own_pd11 rfl rfl 0 (Nat.le_refl _) (by decide) (fun v760 T760 L760 X760 hQ760 => ?_)
  obtain ⟨rfl, N760q, e760⟩ := hQ760
  have N760 := Fr.app N758 N760q
  refine own_nv (own_is X760 q d0_24 (l' := #[.val (.int p1), .val (.int p2), .val (.int p3), .val (.int p4), .val (.int p5), .val v'4, .val (.int z755), .val (.int z757), .val (.int z759), .unset, .unset, .unset]) rfl (own_il X760 q d0_26 rfl ?_))
  obtain ⟨z761, hz761⟩ : ∃ z, own_draw p5 = z := ⟨_, rfl⟩
  refine own_cS X760 q hZ e760 hown hml (W 1 rfl) (W 2 rfl) (W 3 rfl) (W 4 rfl) (rm1 l Z a0 hw p5 z761 h0 n0 Z0 hz761) d0_28 [(.int p5)] [] own_pd11 rfl rfl 0 (Nat.le_refl _) (by decide) (fun v762 T762 L762 X762 hQ762 => ?_)
  obtain ⟨rfl, N762q, e762⟩ := hQ762
  have N762 := Fr.app N760 N762q
  refine own_nv (own_is X762 q d0_31 (l' := #[.val (.int p1), .val (.int p2), .val (.int p3), .val (.int p4), .val (.int p5), .val v'4, .val (.int z755), .val (.int z757), .val (.int z759), .val (.int z761), .unset, .unset]) rfl ?_)
  have c8_z755 := own_d8 hz755
  have c8_z757 := own_d8 hz757
  have c8_z759 := own_d8 hz759
  have c8_z761 := own_d8 hz761
  refine own_il X762 q d0_33 rfl (own_zy X762 q d0_35 (((if0 _ _).trans (feq ((by decide) : ¬ ((4 : Int32) = (0 : Int32)))).2)) (own_il X762 q d0_53 rfl (own_k X762 q d0_55 (own_cy X762 q d0_56 ((feq ((by decide) : ¬ ((4 : Int32) = (1 : Int32)))).2) (own_il X762 q d0_79 rfl (own_k X762 q d0_81 (own_cy X762 q d0_82 ((feq ((by decide) : ¬ ((4 : Int32) = (2 : Int32)))).2) (own_il X762 q d0_110 rfl (own_k X762 q d0_112 (own_cy X762 q d0_113 ((feq ((by decide) : ¬ ((4 : Int32) = (3 : Int32)))).2) ?_))))))))))
  refine own_let ?_; intro g763_
  obtain ⟨T764, h764, X764, e764, E764, A764, D764, -, st764⟩ := newO X762 hx hZ hown (W 5 rfl) (W 6 rfl) (W 7 rfl) e762 (g := g763_) rfl (q.d d0_146) (by decide) (by decide)
  obtain ⟨b764, g764⟩ : ∃ z, z = h0.size := ⟨_, rfl⟩
  rw [← g764] at A764 D764 st764
  have zs765 := Nat.le_trans Z0 E764.1
  have hk765 := Nat.le_trans hk0 E764.1
  have od765 := O0.ext E764
  have g_b764 : n0 ≤ b764 := Nat.le_trans Z0 (Nat.le_of_eq g764.symm)
  have F764_value : F'1 Z h764 b764 .null := D764 (Or.inr (W 21 rfl)) (ty := (.array .byte)) (by decide)
  have F764_coder : F'0 Z h764 b764 v'0 := D764 (Or.inr (W 22 rfl)) (ty := .byte) (by decide)
  refine own_stq 149 [(.ref b764)] st764 (own_dp X764 q d0_149 rfl (own_k X764 q d0_150 ?_))
  refine own_let ?_; intro g766_
  obtain ⟨T767, h767, k767, X767, e767, E767, A767, st767⟩ := newP X764 hx hZ (W 8 rfl) e764 (g := g766_) rfl (q.d d0_151) rfl (by decide) (cap := 4) (by decide) (by decide) (by decide) (by decide)
  obtain ⟨b767, g767⟩ : ∃ z, z = h764.size := ⟨_, rfl⟩
  rw [← g767] at A767 st767
  have V767 : Arv Z h767 b767 k767 .char (4 : Int32) [v'0, v'0, v'0, v'0] v'0 := (Arv.new A767 (by decide)).pad (pad_rep [] v'0 4)
  have zs768 := Nat.le_trans zs765 E767.1
  have hk768 := Nat.le_trans hk765 E767.1
  have od768 := od765.ext E767
  have g_b767 : n0 ≤ b767 := Nat.le_trans zs765 (Nat.le_of_eq g767.symm)
  refine own_stp 153 st767 (own_dp X767 q d0_153 rfl (own_k X767 q d0_154 (own_il X767 q d0_155 rfl ?_)))
  refine own_cst X767 q hZ e767 V767 d0_157 (by decide) (Nat.le_of_ble_eq_true rfl) N762 g_b767 fun T769 h769 X769 e769 W769 V769 N769 => ?_
  have zs770 := Nat.le_trans zs768 (Keep.of_wr W769).1
  have hk770 := Nat.le_trans hk768 (Keep.of_wr W769).1
  have od770 := od768.wr W769 g_b767
  refine own_dp X769 q d0_158 rfl (own_k X769 q d0_159 (own_il X769 q d0_160 rfl ?_))
  refine own_cst X769 q hZ e769 V769 d0_162 (by decide) (Nat.le_of_ble_eq_true rfl) N769 g_b767 fun T771 h771 X771 e771 W771 V771 N771 => ?_
  have zs772 := Nat.le_trans zs770 (Keep.of_wr W771).1
  have hk772 := Nat.le_trans hk770 (Keep.of_wr W771).1
  have od772 := od770.wr W771 g_b767
  refine own_dp X771 q d0_163 rfl (own_k X771 q d0_164 (own_il X771 q d0_165 rfl ?_))
  refine own_cst X771 q hZ e771 V771 d0_167 (by decide) (Nat.le_of_ble_eq_true rfl) N771 g_b767 fun T773 h773 X773 e773 W773 V773 N773 => ?_
  have zs774 := Nat.le_trans zs772 (Keep.of_wr W773).1
  have hk774 := Nat.le_trans hk772 (Keep.of_wr W773).1
  have od774 := od772.wr W773 g_b767
  refine own_dp X773 q d0_168 rfl (own_k X773 q d0_169 (own_il X773 q d0_170 rfl ?_))
  refine own_cst X773 q hZ e773 V773 d0_172 (by decide) (Nat.le_of_ble_eq_true rfl) N773 g_b767 fun T775 h775 X775 e775 W775 V775 N775 => ?_
  have zs776 := Nat.le_trans zs774 (Keep.of_wr W775).1
  have hk776 := Nat.le_trans hk774 (Keep.of_wr W775).1
  have od776 := od774.wr W775 g_b767
  refine own_cIh (a := b764) X775 q hZ e775 hown hml (W 9 rfl) (W 10 rfl) (W 7 rfl) (W 11 rfl) (rm2_4 l Z a0 hw b764 b767 k767 (nar .char z755) (nar .char z757) (nar .char z759) (nar .char z761) cs0 h775 n0 zs776 (((((A764.ext E767).wr W769).wr W771).wr W773).wr W775) (((((F764_value.ext E767).other W769 (Or.inl (own_ne (A764).lt (Nat.le_of_eq g767.symm)))).other W771 (Or.inl (own_ne (A764).lt (Nat.le_of_eq g767.symm)))).other W773 (Or.inl (own_ne (A764).lt (Nat.le_of_eq g767.symm)))).other W775 (Or.inl (own_ne (A764).lt (Nat.le_of_eq g767.symm)))) (((((F764_coder.ext E767).other W769 (Or.inl (own_ne (A764).lt (Nat.le_of_eq g767.symm)))).other W771 (Or.inl (own_ne (A764).lt (Nat.le_of_eq g767.symm)))).other W773 (Or.inl (own_ne (A764).lt (Nat.le_of_eq g767.symm)))).other W775 (Or.inl (own_ne (A764).lt (Nat.le_of_eq g767.symm)))) V775 g_b764 (own_ne (A764).lt (Nat.le_of_eq g767.symm)) od776 ⟨SCS, hcs⟩ (own_nc8 c8_z755) (own_nc8 c8_z757) (own_nc8 c8_z759) (own_nc8 c8_z761)) d0_173 [(.ref b767)] [(.ref b764)] own_pd12 rfl rfl 1 (Nat.le_refl _) rfl (by decide) (fun v777 T777 L777 h777 e777' X777 hQ777 => ?_)
  obtain ⟨t777, k777, rfl, N777q, K777, Fv777, Fc777, V777⟩ := hQ777
  have N777 := Fr.app N775 N777q
  have zs778 := Nat.le_trans zs776 K777.1
  have hk778 := Nat.le_trans hk776 K777.1
  have od778 := od776.keep K777 (allS g_b764 all0)
  refine own_nn (own_as X777 q d0_176 rfl (l' := #[.val (.int p1), .val (.int p2), .val (.int p3), .val (.int p4), .val (.int p5), .val v'4, .val (.int z755), .val (.int z757), .val (.int z759), .val (.int z761), .val (.ref b764), .unset]) rfl (own_k X777 q d0_178 (own_is X777 q d0_179 (l' := #[.val (.int p1), .val (.int p2), .val (.int p3), .val (.int p4), .val (.int p5), .val v'4, .val (.int z755), .val (.int z757), .val (.int z759), .val (.int z761), .val (.ref b764), .val v'0]) rfl (own_il X777 q d0_181 rfl (own_zn X777 q d0_183 (((if0 _ _).trans (tlt ((by decide) : (0 : Int32) < (4 : Int32))).2.2.2)) (own_il X777 q d0_186 rfl ?_))))))
  refine own_cS X777 q hZ e777' hown hml (W 81 rfl) (W 82 rfl) (W 3 rfl) (W 83 rfl) (rm18 l Z a0 hw z755 h777 n0 zs778) d0_188 [(.int z755)] [] own_pd14 rfl rfl 0 (Nat.le_refl _) (by decide) (fun v779 T779 L779 X779 hQ779 => ?_)
  obtain ⟨z779, rfl, N779q, e779, hM779⟩ := hQ779
  have N779 := Fr.app N777 N779q
  refine own_nv ?_
  by_cases hc191_780 : z779 = (0 : Int32)
  ·refine own_zy X779 q d0_191 (((if0 _ _).trans (teq hc191_780).1)) (own_il X779 q d0_197 rfl (own_k X779 q d0_199 (own_cn X779 q d0_200 ((tlt ((by decide) : (1 : Int32) < (4 : Int32))).2.2.2) (own_il X779 q d0_203 rfl ?_))))
   refine own_cS X779 q hZ e779 hown hml (W 81 rfl) (W 82 rfl) (W 3 rfl) (W 83 rfl) (rm18 l Z a0 hw z757 h777 n0 zs778) d0_205 [(.int z757)] [] own_pd14 rfl rfl 0 (Nat.le_refl _) (by decide) (fun v781 T781 L781 X781 hQ781 => ?_)
   obtain ⟨z781, rfl, N781q, e781, hM781⟩ := hQ781
   have N781 := Fr.app N779 N781q
   refine own_nv ?_
   by_cases hc208_782 : z781 = (0 : Int32)
   ·refine own_zy X781 q d0_208 (((if0 _ _).trans (teq hc208_782).1)) (own_il X781 q d0_214 rfl (own_k X781 q d0_216 (own_cn X781 q d0_217 ((tlt ((by decide) : (2 : Int32) < (4 : Int32))).2.2.2) (own_il X781 q d0_220 rfl ?_))))
    refine own_cS X781 q hZ e781 hown hml (W 81 rfl) (W 82 rfl) (W 3 rfl) (W 83 rfl) (rm18 l Z a0 hw z759 h777 n0 zs778) d0_222 [(.int z759)] [] own_pd14 rfl rfl 0 (Nat.le_refl _) (by decide) (fun v783 T783 L783 X783 hQ783 => ?_)
    obtain ⟨z783, rfl, N783q, e783, hM783⟩ := hQ783
    have N783 := Fr.app N781 N783q
    refine own_nv ?_
    by_cases hc225_784 : z783 = (0 : Int32)
    ·refine own_zy X783 q d0_225 (((if0 _ _).trans (teq hc225_784).1)) (own_il X783 q d0_231 rfl (own_k X783 q d0_233 (own_cn X783 q d0_234 ((tlt ((by decide) : (3 : Int32) < (4 : Int32))).2.2.2) (own_il X783 q d0_237 rfl ?_))))
     refine own_cS X783 q hZ e783 hown hml (W 81 rfl) (W 82 rfl) (W 3 rfl) (W 83 rfl) (rm18 l Z a0 hw z761 h777 n0 zs778) d0_239 [(.int z761)] [] own_pd14 rfl rfl 0 (Nat.le_refl _) (by decide) (fun v785 T785 L785 X785 hQ785 => ?_)
     obtain ⟨z785, rfl, N785q, e785, hM785⟩ := hQ785
     have N785 := Fr.app N783 N785q
     refine own_nv ?_
     by_cases hc242_786 : z785 = (0 : Int32)
     ·refine own_zy X785 q d0_242 (((if0 _ _).trans (teq hc242_786).1)) (own_al X785 q d0_248 rfl rfl ?_)
      refine own_cS X785 q hZ e785 hown hml (W 27 rfl) (W 28 rfl) (W 29 rfl) (W 30 rfl) (rm5_4 l Z a0 hw b764 t777 k777 (nar .byte ((nar .char z755).toInt8.toInt32)) (nar .byte ((nar .char z757).toInt8.toInt32)) (nar .byte ((nar .char z759).toInt8.toInt32)) (nar .byte ((nar .char z761).toInt8.toInt32)) cs0 h777 n0 zs778 ((((((A764.ext E767).wr W769).wr W771).wr W773).wr W775).keep K777) Fv777 V777 od778 ⟨SCS, hcs⟩ Fc777) d0_250 [(.ref b764)] [] own_pd13 rfl rfl 0 (Nat.le_refl _) (by decide) (fun v787 T787 L787 X787 hQ787 => ?_)
      obtain ⟨z787, rfl, N787q, e787, hP787⟩ := hQ787
      have N787 := Fr.app N785 N787q
      refine own_nv (own_il X787 q d0_253 rfl ?_)
      have hE788 : z787 = (0 : Int32) := by
       have v_z755 := own_w0 hM779 hc191_780
       have v_z757 := own_w0 hM781 hc208_782
       have v_z759 := own_w0 hM783 hc225_784
       have v_z761 := own_w0 hM785 hc242_786
       rcases hP787 with ⟨hq, r⟩ | ⟨hq, r⟩
       ·exfalso
        simp only [List.mem_cons, List.not_mem_nil, or_false, own_b42 c8_z755, own_b63 c8_z755, own_b42 c8_z757, own_b63 c8_z757, own_b42 c8_z759, own_b63 c8_z759, own_b42 c8_z761, own_b63 c8_z761] at r
        rcases r with (r | r | r | r) | (r | r | r | r)
        ·exact v_z755 (Or.inl r)
        ·exact v_z757 (Or.inl r)
        ·exact v_z759 (Or.inl r)
        ·exact v_z761 (Or.inl r)
        ·exact v_z755 (Or.inr r)
        ·exact v_z757 (Or.inr r)
        ·exact v_z759 (Or.inr r)
        ·exact v_z761 (Or.inr r)
       ·exact hq
      refine own_cn X787 q d0_255 ((teq (hE788 : z787 = (0 : Int32))).2) (own_k X787 q d0_258 (own_gt X787 q d0_259 ?_))
      refine own_retNW X787 hS0 (by rw [e787]; exact hk778) hx (t := .boolean) Bd.returns (by simp) (q.d d0_263) hlk ?_ (by decide) (by decide)
      exact ⟨rfl, N787⟩
     ·refine own_zn X785 q d0_242 (((if0 _ _).trans (feq hc242_786).1)) (own_k X785 q d0_245 (own_is X785 q d0_246 (l' := #[.val (.int p1), .val (.int p2), .val (.int p3), .val (.int p4), .val (.int p5), .val v'4, .val (.int z755), .val (.int z757), .val (.int z759), .val (.int z761), .val (.ref b764), .val v'1]) rfl (own_al X785 q d0_248 rfl rfl ?_)))
      refine own_cS X785 q hZ e785 hown hml (W 27 rfl) (W 28 rfl) (W 29 rfl) (W 30 rfl) (rm5_4 l Z a0 hw b764 t777 k777 (nar .byte ((nar .char z755).toInt8.toInt32)) (nar .byte ((nar .char z757).toInt8.toInt32)) (nar .byte ((nar .char z759).toInt8.toInt32)) (nar .byte ((nar .char z761).toInt8.toInt32)) cs0 h777 n0 zs778 ((((((A764.ext E767).wr W769).wr W771).wr W773).wr W775).keep K777) Fv777 V777 od778 ⟨SCS, hcs⟩ Fc777) d0_250 [(.ref b764)] [] own_pd13 rfl rfl 0 (Nat.le_refl _) (by decide) (fun v789 T789 L789 X789 hQ789 => ?_)
      obtain ⟨z789, rfl, N789q, e789, hP789⟩ := hQ789
      have N789 := Fr.app N785 N789q
      refine own_nv (own_il X789 q d0_253 rfl ?_)
      have hE790 : z789 = (1 : Int32) := by
       have v_z755 := own_w0 hM779 hc191_780
       have v_z757 := own_w0 hM781 hc208_782
       have v_z759 := own_w0 hM783 hc225_784
       have v_z761 := own_w1 hM785 hc242_786
       rcases hP789 with ⟨hq, r⟩ | ⟨hq, r⟩
       ·exact hq
       ·exfalso
        simp only [List.mem_cons, List.not_mem_nil, or_false, own_b42 c8_z755, own_b63 c8_z755, own_b42 c8_z757, own_b63 c8_z757, own_b42 c8_z759, own_b63 c8_z759, own_b42 c8_z761, own_b63 c8_z761] at r
        rcases v_z761 with q | q
        ·exact r (Or.inl (Or.inr (Or.inr (Or.inr q))))
        ·exact r (Or.inr (Or.inr (Or.inr (Or.inr q))))
      refine own_cn X789 q d0_255 ((teq (hE790 : z789 = (1 : Int32))).2) (own_k X789 q d0_258 (own_gt X789 q d0_259 ?_))
      refine own_retNW X789 hS0 (by rw [e789]; exact hk778) hx (t := .boolean) Bd.returns (by simp) (q.d d0_263) hlk ?_ (by decide) (by decide)
      exact ⟨rfl, N789⟩
    ·refine own_zn X783 q d0_225 (((if0 _ _).trans (feq hc225_784).1)) (own_k X783 q d0_228 (own_is X783 q d0_229 (l' := #[.val (.int p1), .val (.int p2), .val (.int p3), .val (.int p4), .val (.int p5), .val v'4, .val (.int z755), .val (.int z757), .val (.int z759), .val (.int z761), .val (.ref b764), .val v'1]) rfl (own_il X783 q d0_231 rfl (own_k X783 q d0_233 (own_cn X783 q d0_234 ((tlt ((by decide) : (3 : Int32) < (4 : Int32))).2.2.2) (own_il X783 q d0_237 rfl ?_))))))
     refine own_cS X783 q hZ e783 hown hml (W 81 rfl) (W 82 rfl) (W 3 rfl) (W 83 rfl) (rm18 l Z a0 hw z761 h777 n0 zs778) d0_239 [(.int z761)] [] own_pd14 rfl rfl 0 (Nat.le_refl _) (by decide) (fun v791 T791 L791 X791 hQ791 => ?_)
     obtain ⟨z791, rfl, N791q, e791, hM791⟩ := hQ791
     have N791 := Fr.app N783 N791q
     refine own_nv ?_
     by_cases hc242_792 : z791 = (0 : Int32)
     ·refine own_zy X791 q d0_242 (((if0 _ _).trans (teq hc242_792).1)) (own_al X791 q d0_248 rfl rfl ?_)
      refine own_cS X791 q hZ e791 hown hml (W 27 rfl) (W 28 rfl) (W 29 rfl) (W 30 rfl) (rm5_4 l Z a0 hw b764 t777 k777 (nar .byte ((nar .char z755).toInt8.toInt32)) (nar .byte ((nar .char z757).toInt8.toInt32)) (nar .byte ((nar .char z759).toInt8.toInt32)) (nar .byte ((nar .char z761).toInt8.toInt32)) cs0 h777 n0 zs778 ((((((A764.ext E767).wr W769).wr W771).wr W773).wr W775).keep K777) Fv777 V777 od778 ⟨SCS, hcs⟩ Fc777) d0_250 [(.ref b764)] [] own_pd13 rfl rfl 0 (Nat.le_refl _) (by decide) (fun v793 T793 L793 X793 hQ793 => ?_)
      obtain ⟨z793, rfl, N793q, e793, hP793⟩ := hQ793
      have N793 := Fr.app N791 N793q
      refine own_nv (own_il X793 q d0_253 rfl ?_)
      have hE794 : z793 = (1 : Int32) := by
       have v_z755 := own_w0 hM779 hc191_780
       have v_z757 := own_w0 hM781 hc208_782
       have v_z759 := own_w1 hM783 hc225_784
       have v_z761 := own_w0 hM791 hc242_792
       rcases hP793 with ⟨hq, r⟩ | ⟨hq, r⟩
       ·exact hq
       ·exfalso
        simp only [List.mem_cons, List.not_mem_nil, or_false, own_b42 c8_z755, own_b63 c8_z755, own_b42 c8_z757, own_b63 c8_z757, own_b42 c8_z759, own_b63 c8_z759, own_b42 c8_z761, own_b63 c8_z761] at r
        rcases v_z759 with q | q
        ·exact r (Or.inl (Or.inr (Or.inr (Or.inl q))))
        ·exact r (Or.inr (Or.inr (Or.inr (Or.inl q))))
      refine own_cn X793 q d0_255 ((teq (hE794 : z793 = (1 : Int32))).2) (own_k X793 q d0_258 (own_gt X793 q d0_259 ?_))
      refine own_retNW X793 hS0 (by rw [e793]; exact hk778) hx (t := .boolean) Bd.returns (by simp) (q.d d0_263) hlk ?_ (by decide) (by decide)
      exact ⟨rfl, N793⟩
     ·refine own_zn X791 q d0_242 (((if0 _ _).trans (feq hc242_792).1)) (own_k X791 q d0_245 (own_is X791 q d0_246 (l' := #[.val (.int p1), .val (.int p2), .val (.int p3), .val (.int p4), .val (.int p5), .val v'4, .val (.int z755), .val (.int z757), .val (.int z759), .val (.int z761), .val (.ref b764), .val v'1]) rfl (own_al X791 q d0_248 rfl rfl ?_)))
      refine own_cS X791 q hZ e791 hown hml (W 27 rfl) (W 28 rfl) (W 29 rfl) (W 30 rfl) (rm5_4 l Z a0 hw b764 t777 k777 (nar .byte ((nar .char z755).toInt8.toInt32)) (nar .byte ((nar .char z757).toInt8.toInt32)) (nar .byte ((nar .char z759).toInt8.toInt32)) (nar .byte ((nar .char z761).toInt8.toInt32)) cs0 h777 n0 zs778 ((((((A764.ext E767).wr W769).wr W771).wr W773).wr W775).keep K777) Fv777 V777 od778 ⟨SCS, hcs⟩ Fc777) d0_250 [(.ref b764)] [] own_pd13 rfl rfl 0 (Nat.le_refl _) (by decide) (fun v795 T795 L795 X795 hQ795 => ?_)
      obtain ⟨z795, rfl, N795q, e795, hP795⟩ := hQ795
      have N795 := Fr.app N791 N795q
      refine own_nv (own_il X795 q d0_253 rfl ?_)
      have hE796 : z795 = (1 : Int32) := by
       have v_z755 := own_w0 hM779 hc191_780
       have v_z757 := own_w0 hM781 hc208_782
       have v_z759 := own_w1 hM783 hc225_784
       have v_z761 := own_w1 hM791 hc242_792
       rcases hP795 with ⟨hq, r⟩ | ⟨hq, r⟩
       ·exact hq
       ·exfalso
        simp only [List.mem_cons, List.not_mem_nil, or_false, own_b42 c8_z755, own_b63 c8_z755, own_b42 c8_z757, own_b63 c8_z757, own_b42 c8_z759, own_b63 c8_z759, own_b42 c8_z761, own_b63 c8_z761] at r
        rcases v_z759 with q | q
        ·exact r (Or.inl (Or.inr (Or.inr (Or.inl q))))
        ·exact r (Or.inr (Or.inr (Or.inr (Or.inl q))))
      refine own_cn X795 q d0_255 ((teq (hE796 : z795 = (1 : Int32))).2) (own_k X795 q d0_258 (own_gt X795 q d0_259 ?_))
      refine own_retNW X795 hS0 (by rw [e795]; exact hk778) hx (t := .boolean) Bd.returns (by simp) (q.d d0_263) hlk ?_ (by decide) (by decide)
      exact ⟨rfl, N795⟩
   ·refine own_zn X781 q d0_208 (((if0 _ _).trans (feq hc208_782).1)) (own_k X781 q d0_211 (own_is X781 q d0_212 (l' := #[.val (.int p1), .val (.int p2), .val (.int p3), .val (.int p4), .val (.int p5), .val v'4, .val (.int z755), .val (.int z757), .val (.int z759), .val (.int z761), .val (.ref b764), .val v'1]) rfl (own_il X781 q d0_214 rfl (own_k X781 q d0_216 (own_cn X781 q d0_217 ((tlt ((by decide) : (2 : Int32) < (4 : Int32))).2.2.2) (own_il X781 q d0_220 rfl ?_))))))
    refine own_cS X781 q hZ e781 hown hml (W 81 rfl) (W 82 rfl) (W 3 rfl) (W 83 rfl) (rm18 l Z a0 hw z759 h777 n0 zs778) d0_222 [(.int z759)] [] own_pd14 rfl rfl 0 (Nat.le_refl _) (by decide) (fun v797 T797 L797 X797 hQ797 => ?_)
    obtain ⟨z797, rfl, N797q, e797, hM797⟩ := hQ797
    have N797 := Fr.app N781 N797q
    refine own_nv ?_
    by_cases hc225_798 : z797 = (0 : Int32)
    ·refine own_zy X797 q d0_225 (((if0 _ _).trans (teq hc225_798).1)) (own_il X797 q d0_231 rfl (own_k X797 q d0_233 (own_cn X797 q d0_234 ((tlt ((by decide) : (3 : Int32) < (4 : Int32))).2.2.2) (own_il X797 q d0_237 rfl ?_))))
     refine own_cS X797 q hZ e797 hown hml (W 81 rfl) (W 82 rfl) (W 3 rfl) (W 83 rfl) (rm18 l Z a0 hw z761 h777 n0 zs778) d0_239 [(.int z761)] [] own_pd14 rfl rfl 0 (Nat.le_refl _) (by decide) (fun v799 T799 L799 X799 hQ799 => ?_)
     obtain ⟨z799, rfl, N799q, e799, hM799⟩ := hQ799
     have N799 := Fr.app N797 N799q
     refine own_nv ?_
     by_cases hc242_800 : z799 = (0 : Int32)
     ·refine own_zy X799 q d0_242 (((if0 _ _).trans (teq hc242_800).1)) (own_al X799 q d0_248 rfl rfl ?_)
      refine own_cS X799 q hZ e799 hown hml (W 27 rfl) (W 28 rfl) (W 29 rfl) (W 30 rfl) (rm5_4 l Z a0 hw b764 t777 k777 (nar .byte ((nar .char z755).toInt8.toInt32)) (nar .byte ((nar .char z757).toInt8.toInt32)) (nar .byte ((nar .char z759).toInt8.toInt32)) (nar .byte ((nar .char z761).toInt8.toInt32)) cs0 h777 n0 zs778 ((((((A764.ext E767).wr W769).wr W771).wr W773).wr W775).keep K777) Fv777 V777 od778 ⟨SCS, hcs⟩ Fc777) d0_250 [(.ref b764)] [] own_pd13 rfl rfl 0 (Nat.le_refl _) (by decide) (fun v801 T801 L801 X801 hQ801 => ?_)
      obtain ⟨z801, rfl, N801q, e801, hP801⟩ := hQ801
      have N801 := Fr.app N799 N801q
      refine own_nv (own_il X801 q d0_253 rfl ?_)
      have hE802 : z801 = (1 : Int32) := by
       have v_z755 := own_w0 hM779 hc191_780
       have v_z757 := own_w1 hM781 hc208_782
       have v_z759 := own_w0 hM797 hc225_798
       have v_z761 := own_w0 hM799 hc242_800
       rcases hP801 with ⟨hq, r⟩ | ⟨hq, r⟩
       ·exact hq
       ·exfalso
        simp only [List.mem_cons, List.not_mem_nil, or_false, own_b42 c8_z755, own_b63 c8_z755, own_b42 c8_z757, own_b63 c8_z757, own_b42 c8_z759, own_b63 c8_z759, own_b42 c8_z761, own_b63 c8_z761] at r
        rcases v_z757 with q | q
        ·exact r (Or.inl (Or.inr (Or.inl q)))
        ·exact r (Or.inr (Or.inr (Or.inl q)))
      refine own_cn X801 q d0_255 ((teq (hE802 : z801 = (1 : Int32))).2) (own_k X801 q d0_258 (own_gt X801 q d0_259 ?_))
      refine own_retNW X801 hS0 (by rw [e801]; exact hk778) hx (t := .boolean) Bd.returns (by simp) (q.d d0_263) hlk ?_ (by decide) (by decide)
      exact ⟨rfl, N801⟩
     ·refine own_zn X799 q d0_242 (((if0 _ _).trans (feq hc242_800).1)) (own_k X799 q d0_245 (own_is X799 q d0_246 (l' := #[.val (.int p1), .val (.int p2), .val (.int p3), .val (.int p4), .val (.int p5), .val v'4, .val (.int z755), .val (.int z757), .val (.int z759), .val (.int z761), .val (.ref b764), .val v'1]) rfl (own_al X799 q d0_248 rfl rfl ?_)))
      refine own_cS X799 q hZ e799 hown hml (W 27 rfl) (W 28 rfl) (W 29 rfl) (W 30 rfl) (rm5_4 l Z a0 hw b764 t777 k777 (nar .byte ((nar .char z755).toInt8.toInt32)) (nar .byte ((nar .char z757).toInt8.toInt32)) (nar .byte ((nar .char z759).toInt8.toInt32)) (nar .byte ((nar .char z761).toInt8.toInt32)) cs0 h777 n0 zs778 ((((((A764.ext E767).wr W769).wr W771).wr W773).wr W775).keep K777) Fv777 V777 od778 ⟨SCS, hcs⟩ Fc777) d0_250 [(.ref b764)] [] own_pd13 rfl rfl 0 (Nat.le_refl _) (by decide) (fun v803 T803 L803 X803 hQ803 => ?_)
      obtain ⟨z803, rfl, N803q, e803, hP803⟩ := hQ803
      have N803 := Fr.app N799 N803q
      refine own_nv (own_il X803 q d0_253 rfl ?_)
      have hE804 : z803 = (1 : Int32) := by
       have v_z755 := own_w0 hM779 hc191_780
       have v_z757 := own_w1 hM781 hc208_782
       have v_z759 := own_w0 hM797 hc225_798
       have v_z761 := own_w1 hM799 hc242_800
       rcases hP803 with ⟨hq, r⟩ | ⟨hq, r⟩
       ·exact hq
       ·exfalso
        simp only [List.mem_cons, List.not_mem_nil, or_false, own_b42 c8_z755, own_b63 c8_z755, own_b42 c8_z757, own_b63 c8_z757, own_b42 c8_z759, own_b63 c8_z759, own_b42 c8_z761, own_b63 c8_z761] at r
        rcases v_z757 with q | q
        ·exact r (Or.inl (Or.inr (Or.inl q)))
        ·exact r (Or.inr (Or.inr (Or.inl q)))
      refine own_cn X803 q d0_255 ((teq (hE804 : z803 = (1 : Int32))).2) (own_k X803 q d0_258 (own_gt X803 q d0_259 ?_))
      refine own_retNW X803 hS0 (by rw [e803]; exact hk778) hx (t := .boolean) Bd.returns (by simp) (q.d d0_263) hlk ?_ (by decide) (by decide)
      exact ⟨rfl, N803⟩
    ·refine own_zn X797 q d0_225 (((if0 _ _).trans (feq hc225_798).1)) (own_k X797 q d0_228 (own_is X797 q d0_229 (l' := #[.val (.int p1), .val (.int p2), .val (.int p3), .val (.int p4), .val (.int p5), .val v'4, .val (.int z755), .val (.int z757), .val (.int z759), .val (.int z761), .val (.ref b764), .val v'1]) rfl (own_il X797 q d0_231 rfl (own_k X797 q d0_233 (own_cn X797 q d0_234 ((tlt ((by decide) : (3 : Int32) < (4 : Int32))).2.2.2) (own_il X797 q d0_237 rfl ?_))))))
     refine own_cS X797 q hZ e797 hown hml (W 81 rfl) (W 82 rfl) (W 3 rfl) (W 83 rfl) (rm18 l Z a0 hw z761 h777 n0 zs778) d0_239 [(.int z761)] [] own_pd14 rfl rfl 0 (Nat.le_refl _) (by decide) (fun v805 T805 L805 X805 hQ805 => ?_)
     obtain ⟨z805, rfl, N805q, e805, hM805⟩ := hQ805
     have N805 := Fr.app N797 N805q
     refine own_nv ?_
     by_cases hc242_806 : z805 = (0 : Int32)
     ·refine own_zy X805 q d0_242 (((if0 _ _).trans (teq hc242_806).1)) (own_al X805 q d0_248 rfl rfl ?_)
      refine own_cS X805 q hZ e805 hown hml (W 27 rfl) (W 28 rfl) (W 29 rfl) (W 30 rfl) (rm5_4 l Z a0 hw b764 t777 k777 (nar .byte ((nar .char z755).toInt8.toInt32)) (nar .byte ((nar .char z757).toInt8.toInt32)) (nar .byte ((nar .char z759).toInt8.toInt32)) (nar .byte ((nar .char z761).toInt8.toInt32)) cs0 h777 n0 zs778 ((((((A764.ext E767).wr W769).wr W771).wr W773).wr W775).keep K777) Fv777 V777 od778 ⟨SCS, hcs⟩ Fc777) d0_250 [(.ref b764)] [] own_pd13 rfl rfl 0 (Nat.le_refl _) (by decide) (fun v807 T807 L807 X807 hQ807 => ?_)
      obtain ⟨z807, rfl, N807q, e807, hP807⟩ := hQ807
      have N807 := Fr.app N805 N807q
      refine own_nv (own_il X807 q d0_253 rfl ?_)
      have hE808 : z807 = (1 : Int32) := by
       have v_z755 := own_w0 hM779 hc191_780
       have v_z757 := own_w1 hM781 hc208_782
       have v_z759 := own_w1 hM797 hc225_798
       have v_z761 := own_w0 hM805 hc242_806
       rcases hP807 with ⟨hq, r⟩ | ⟨hq, r⟩
       ·exact hq
       ·exfalso
        simp only [List.mem_cons, List.not_mem_nil, or_false, own_b42 c8_z755, own_b63 c8_z755, own_b42 c8_z757, own_b63 c8_z757, own_b42 c8_z759, own_b63 c8_z759, own_b42 c8_z761, own_b63 c8_z761] at r
        rcases v_z757 with q | q
        ·exact r (Or.inl (Or.inr (Or.inl q)))
        ·exact r (Or.inr (Or.inr (Or.inl q)))
      refine own_cn X807 q d0_255 ((teq (hE808 : z807 = (1 : Int32))).2) (own_k X807 q d0_258 (own_gt X807 q d0_259 ?_))
      refine own_retNW X807 hS0 (by rw [e807]; exact hk778) hx (t := .boolean) Bd.returns (by simp) (q.d d0_263) hlk ?_ (by decide) (by decide)
      exact ⟨rfl, N807⟩
     ·refine own_zn X805 q d0_242 (((if0 _ _).trans (feq hc242_806).1)) (own_k X805 q d0_245 (own_is X805 q d0_246 (l' := #[.val (.int p1), .val (.int p2), .val (.int p3), .val (.int p4), .val (.int p5), .val v'4, .val (.int z755), .val (.int z757), .val (.int z759), .val (.int z761), .val (.ref b764), .val v'1]) rfl (own_al X805 q d0_248 rfl rfl ?_)))
      refine own_cS X805 q hZ e805 hown hml (W 27 rfl) (W 28 rfl) (W 29 rfl) (W 30 rfl) (rm5_4 l Z a0 hw b764 t777 k777 (nar .byte ((nar .char z755).toInt8.toInt32)) (nar .byte ((nar .char z757).toInt8.toInt32)) (nar .byte ((nar .char z759).toInt8.toInt32)) (nar .byte ((nar .char z761).toInt8.toInt32)) cs0 h777 n0 zs778 ((((((A764.ext E767).wr W769).wr W771).wr W773).wr W775).keep K777) Fv777 V777 od778 ⟨SCS, hcs⟩ Fc777) d0_250 [(.ref b764)] [] own_pd13 rfl rfl 0 (Nat.le_refl _) (by decide) (fun v809 T809 L809 X809 hQ809 => ?_)
      obtain ⟨z809, rfl, N809q, e809, hP809⟩ := hQ809
      have N809 := Fr.app N805 N809q
      refine own_nv (own_il X809 q d0_253 rfl ?_)
      have hE810 : z809 = (1 : Int32) := by
       have v_z755 := own_w0 hM779 hc191_780
       have v_z757 := own_w1 hM781 hc208_782
       have v_z759 := own_w1 hM797 hc225_798
       have v_z761 := own_w1 hM805 hc242_806
       rcases hP809 with ⟨hq, r⟩ | ⟨hq, r⟩
       ·exact hq
       ·exfalso
        simp only [List.mem_cons, List.not_mem_nil, or_false, own_b42 c8_z755, own_b63 c8_z755, own_b42 c8_z757, own_b63 c8_z757, own_b42 c8_z759, own_b63 c8_z759, own_b42 c8_z761, own_b63 c8_z761] at r
        rcases v_z757 with q | q
        ·exact r (Or.inl (Or.inr (Or.inl q)))
        ·exact r (Or.inr (Or.inr (Or.inl q)))
      refine own_cn X809 q d0_255 ((teq (hE810 : z809 = (1 : Int32))).2) (own_k X809 q d0_258 (own_gt X809 q d0_259 ?_))
      refine own_retNW X809 hS0 (by rw [e809]; exact hk778) hx (t := .boolean) Bd.returns (by simp) (q.d d0_263) hlk ?_ (by decide) (by decide)
      exact ⟨rfl, N809⟩
  ·refine own_zn X779 q d0_191 (((if0 _ _).trans (feq hc191_780).1)) (own_k X779 q d0_194 (own_is X779 q d0_195 (l' := #[.val (.int p1), .val (.int p2), .val (.int p3), .val (.int p4), .val (.int p5), .val v'4, .val (.int z755), .val (.int z757), .val (.int z759), .val (.int z761), .val (.ref b764), .val v'1]) rfl (own_il X779 q d0_197 rfl (own_k X779 q d0_199 (own_cn X779 q d0_200 ((tlt ((by decide) : (1 : Int32) < (4 : Int32))).2.2.2) (own_il X779 q d0_203 rfl ?_))))))
   refine own_cS X779 q hZ e779 hown hml (W 81 rfl) (W 82 rfl) (W 3 rfl) (W 83 rfl) (rm18 l Z a0 hw z757 h777 n0 zs778) d0_205 [(.int z757)] [] own_pd14 rfl rfl 0 (Nat.le_refl _) (by decide) (fun v811 T811 L811 X811 hQ811 => ?_)
   obtain ⟨z811, rfl, N811q, e811, hM811⟩ := hQ811
   have N811 := Fr.app N779 N811q
   refine own_nv ?_
   by_cases hc208_812 : z811 = (0 : Int32)
   ·refine own_zy X811 q d0_208 (((if0 _ _).trans (teq hc208_812).1)) (own_il X811 q d0_214 rfl (own_k X811 q d0_216 (own_cn X811 q d0_217 ((tlt ((by decide) : (2 : Int32) < (4 : Int32))).2.2.2) (own_il X811 q d0_220 rfl ?_))))
    refine own_cS X811 q hZ e811 hown hml (W 81 rfl) (W 82 rfl) (W 3 rfl) (W 83 rfl) (rm18 l Z a0 hw z759 h777 n0 zs778) d0_222 [(.int z759)] [] own_pd14 rfl rfl 0 (Nat.le_refl _) (by decide) (fun v813 T813 L813 X813 hQ813 => ?_)
    obtain ⟨z813, rfl, N813q, e813, hM813⟩ := hQ813
    have N813 := Fr.app N811 N813q
    refine own_nv ?_
    by_cases hc225_814 : z813 = (0 : Int32)
    ·refine own_zy X813 q d0_225 (((if0 _ _).trans (teq hc225_814).1)) (own_il X813 q d0_231 rfl (own_k X813 q d0_233 (own_cn X813 q d0_234 ((tlt ((by decide) : (3 : Int32) < (4 : Int32))).2.2.2) (own_il X813 q d0_237 rfl ?_))))
     refine own_cS X813 q hZ e813 hown hml (W 81 rfl) (W 82 rfl) (W 3 rfl) (W 83 rfl) (rm18 l Z a0 hw z761 h777 n0 zs778) d0_239 [(.int z761)] [] own_pd14 rfl rfl 0 (Nat.le_refl _) (by decide) (fun v815 T815 L815 X815 hQ815 => ?_)
     obtain ⟨z815, rfl, N815q, e815, hM815⟩ := hQ815
     have N815 := Fr.app N813 N815q
     refine own_nv ?_
     by_cases hc242_816 : z815 = (0 : Int32)
     ·refine own_zy X815 q d0_242 (((if0 _ _).trans (teq hc242_816).1)) (own_al X815 q d0_248 rfl rfl ?_)
      refine own_cS X815 q hZ e815 hown hml (W 27 rfl) (W 28 rfl) (W 29 rfl) (W 30 rfl) (rm5_4 l Z a0 hw b764 t777 k777 (nar .byte ((nar .char z755).toInt8.toInt32)) (nar .byte ((nar .char z757).toInt8.toInt32)) (nar .byte ((nar .char z759).toInt8.toInt32)) (nar .byte ((nar .char z761).toInt8.toInt32)) cs0 h777 n0 zs778 ((((((A764.ext E767).wr W769).wr W771).wr W773).wr W775).keep K777) Fv777 V777 od778 ⟨SCS, hcs⟩ Fc777) d0_250 [(.ref b764)] [] own_pd13 rfl rfl 0 (Nat.le_refl _) (by decide) (fun v817 T817 L817 X817 hQ817 => ?_)
      obtain ⟨z817, rfl, N817q, e817, hP817⟩ := hQ817
      have N817 := Fr.app N815 N817q
      refine own_nv (own_il X817 q d0_253 rfl ?_)
      have hE818 : z817 = (1 : Int32) := by
       have v_z755 := own_w1 hM779 hc191_780
       have v_z757 := own_w0 hM811 hc208_812
       have v_z759 := own_w0 hM813 hc225_814
       have v_z761 := own_w0 hM815 hc242_816
       rcases hP817 with ⟨hq, r⟩ | ⟨hq, r⟩
       ·exact hq
       ·exfalso
        simp only [List.mem_cons, List.not_mem_nil, or_false, own_b42 c8_z755, own_b63 c8_z755, own_b42 c8_z757, own_b63 c8_z757, own_b42 c8_z759, own_b63 c8_z759, own_b42 c8_z761, own_b63 c8_z761] at r
        rcases v_z755 with q | q
        ·exact r (Or.inl (Or.inl q))
        ·exact r (Or.inr (Or.inl q))
      refine own_cn X817 q d0_255 ((teq (hE818 : z817 = (1 : Int32))).2) (own_k X817 q d0_258 (own_gt X817 q d0_259 ?_))
      refine own_retNW X817 hS0 (by rw [e817]; exact hk778) hx (t := .boolean) Bd.returns (by simp) (q.d d0_263) hlk ?_ (by decide) (by decide)
      exact ⟨rfl, N817⟩
     ·refine own_zn X815 q d0_242 (((if0 _ _).trans (feq hc242_816).1)) (own_k X815 q d0_245 (own_is X815 q d0_246 (l' := #[.val (.int p1), .val (.int p2), .val (.int p3), .val (.int p4), .val (.int p5), .val v'4, .val (.int z755), .val (.int z757), .val (.int z759), .val (.int z761), .val (.ref b764), .val v'1]) rfl (own_al X815 q d0_248 rfl rfl ?_)))
      refine own_cS X815 q hZ e815 hown hml (W 27 rfl) (W 28 rfl) (W 29 rfl) (W 30 rfl) (rm5_4 l Z a0 hw b764 t777 k777 (nar .byte ((nar .char z755).toInt8.toInt32)) (nar .byte ((nar .char z757).toInt8.toInt32)) (nar .byte ((nar .char z759).toInt8.toInt32)) (nar .byte ((nar .char z761).toInt8.toInt32)) cs0 h777 n0 zs778 ((((((A764.ext E767).wr W769).wr W771).wr W773).wr W775).keep K777) Fv777 V777 od778 ⟨SCS, hcs⟩ Fc777) d0_250 [(.ref b764)] [] own_pd13 rfl rfl 0 (Nat.le_refl _) (by decide) (fun v819 T819 L819 X819 hQ819 => ?_)
      obtain ⟨z819, rfl, N819q, e819, hP819⟩ := hQ819
      have N819 := Fr.app N815 N819q
      refine own_nv (own_il X819 q d0_253 rfl ?_)
      have hE820 : z819 = (1 : Int32) := by
       have v_z755 := own_w1 hM779 hc191_780
       have v_z757 := own_w0 hM811 hc208_812
       have v_z759 := own_w0 hM813 hc225_814
       have v_z761 := own_w1 hM815 hc242_816
       rcases hP819 with ⟨hq, r⟩ | ⟨hq, r⟩
       ·exact hq
       ·exfalso
        simp only [List.mem_cons, List.not_mem_nil, or_false, own_b42 c8_z755, own_b63 c8_z755, own_b42 c8_z757, own_b63 c8_z757, own_b42 c8_z759, own_b63 c8_z759, own_b42 c8_z761, own_b63 c8_z761] at r
        rcases v_z755 with q | q
        ·exact r (Or.inl (Or.inl q))
        ·exact r (Or.inr (Or.inl q))
      refine own_cn X819 q d0_255 ((teq (hE820 : z819 = (1 : Int32))).2) (own_k X819 q d0_258 (own_gt X819 q d0_259 ?_))
      refine own_retNW X819 hS0 (by rw [e819]; exact hk778) hx (t := .boolean) Bd.returns (by simp) (q.d d0_263) hlk ?_ (by decide) (by decide)
      exact ⟨rfl, N819⟩
    ·refine own_zn X813 q d0_225 (((if0 _ _).trans (feq hc225_814).1)) (own_k X813 q d0_228 (own_is X813 q d0_229 (l' := #[.val (.int p1), .val (.int p2), .val (.int p3), .val (.int p4), .val (.int p5), .val v'4, .val (.int z755), .val (.int z757), .val (.int z759), .val (.int z761), .val (.ref b764), .val v'1]) rfl (own_il X813 q d0_231 rfl (own_k X813 q d0_233 (own_cn X813 q d0_234 ((tlt ((by decide) : (3 : Int32) < (4 : Int32))).2.2.2) (own_il X813 q d0_237 rfl ?_))))))
     refine own_cS X813 q hZ e813 hown hml (W 81 rfl) (W 82 rfl) (W 3 rfl) (W 83 rfl) (rm18 l Z a0 hw z761 h777 n0 zs778) d0_239 [(.int z761)] [] own_pd14 rfl rfl 0 (Nat.le_refl _) (by decide) (fun v821 T821 L821 X821 hQ821 => ?_)
     obtain ⟨z821, rfl, N821q, e821, hM821⟩ := hQ821
     have N821 := Fr.app N813 N821q
     refine own_nv ?_
     by_cases hc242_822 : z821 = (0 : Int32)
     ·refine own_zy X821 q d0_242 (((if0 _ _).trans (teq hc242_822).1)) (own_al X821 q d0_248 rfl rfl ?_)
      refine own_cS X821 q hZ e821 hown hml (W 27 rfl) (W 28 rfl) (W 29 rfl) (W 30 rfl) (rm5_4 l Z a0 hw b764 t777 k777 (nar .byte ((nar .char z755).toInt8.toInt32)) (nar .byte ((nar .char z757).toInt8.toInt32)) (nar .byte ((nar .char z759).toInt8.toInt32)) (nar .byte ((nar .char z761).toInt8.toInt32)) cs0 h777 n0 zs778 ((((((A764.ext E767).wr W769).wr W771).wr W773).wr W775).keep K777) Fv777 V777 od778 ⟨SCS, hcs⟩ Fc777) d0_250 [(.ref b764)] [] own_pd13 rfl rfl 0 (Nat.le_refl _) (by decide) (fun v823 T823 L823 X823 hQ823 => ?_)
      obtain ⟨z823, rfl, N823q, e823, hP823⟩ := hQ823
      have N823 := Fr.app N821 N823q
      refine own_nv (own_il X823 q d0_253 rfl ?_)
      have hE824 : z823 = (1 : Int32) := by
       have v_z755 := own_w1 hM779 hc191_780
       have v_z757 := own_w0 hM811 hc208_812
       have v_z759 := own_w1 hM813 hc225_814
       have v_z761 := own_w0 hM821 hc242_822
       rcases hP823 with ⟨hq, r⟩ | ⟨hq, r⟩
       ·exact hq
       ·exfalso
        simp only [List.mem_cons, List.not_mem_nil, or_false, own_b42 c8_z755, own_b63 c8_z755, own_b42 c8_z757, own_b63 c8_z757, own_b42 c8_z759, own_b63 c8_z759, own_b42 c8_z761, own_b63 c8_z761] at r
        rcases v_z755 with q | q
        ·exact r (Or.inl (Or.inl q))
        ·exact r (Or.inr (Or.inl q))
      refine own_cn X823 q d0_255 ((teq (hE824 : z823 = (1 : Int32))).2) (own_k X823 q d0_258 (own_gt X823 q d0_259 ?_))
      refine own_retNW X823 hS0 (by rw [e823]; exact hk778) hx (t := .boolean) Bd.returns (by simp) (q.d d0_263) hlk ?_ (by decide) (by decide)
      exact ⟨rfl, N823⟩
     ·refine own_zn X821 q d0_242 (((if0 _ _).trans (feq hc242_822).1)) (own_k X821 q d0_245 (own_is X821 q d0_246 (l' := #[.val (.int p1), .val (.int p2), .val (.int p3), .val (.int p4), .val (.int p5), .val v'4, .val (.int z755), .val (.int z757), .val (.int z759), .val (.int z761), .val (.ref b764), .val v'1]) rfl (own_al X821 q d0_248 rfl rfl ?_)))
      refine own_cS X821 q hZ e821 hown hml (W 27 rfl) (W 28 rfl) (W 29 rfl) (W 30 rfl) (rm5_4 l Z a0 hw b764 t777 k777 (nar .byte ((nar .char z755).toInt8.toInt32)) (nar .byte ((nar .char z757).toInt8.toInt32)) (nar .byte ((nar .char z759).toInt8.toInt32)) (nar .byte ((nar .char z761).toInt8.toInt32)) cs0 h777 n0 zs778 ((((((A764.ext E767).wr W769).wr W771).wr W773).wr W775).keep K777) Fv777 V777 od778 ⟨SCS, hcs⟩ Fc777) d0_250 [(.ref b764)] [] own_pd13 rfl rfl 0 (Nat.le_refl _) (by decide) (fun v825 T825 L825 X825 hQ825 => ?_)
      obtain ⟨z825, rfl, N825q, e825, hP825⟩ := hQ825
      have N825 := Fr.app N821 N825q
      refine own_nv (own_il X825 q d0_253 rfl ?_)
      have hE826 : z825 = (1 : Int32) := by
       have v_z755 := own_w1 hM779 hc191_780
       have v_z757 := own_w0 hM811 hc208_812
       have v_z759 := own_w1 hM813 hc225_814
       have v_z761 := own_w1 hM821 hc242_822
       rcases hP825 with ⟨hq, r⟩ | ⟨hq, r⟩
       ·exact hq
       ·exfalso
        simp only [List.mem_cons, List.not_mem_nil, or_false, own_b42 c8_z755, own_b63 c8_z755, own_b42 c8_z757, own_b63 c8_z757, own_b42 c8_z759, own_b63 c8_z759, own_b42 c8_z761, own_b63 c8_z761] at r
        rcases v_z755 with q | q
        ·exact r (Or.inl (Or.inl q))
        ·exact r (Or.inr (Or.inl q))
      refine own_cn X825 q d0_255 ((teq (hE826 : z825 = (1 : Int32))).2) (own_k X825 q d0_258 (own_gt X825 q d0_259 ?_))
      refine own_retNW X825 hS0 (by rw [e825]; exact hk778) hx (t := .boolean) Bd.returns (by simp) (q.d d0_263) hlk ?_ (by decide) (by decide)
      exact ⟨rfl, N825⟩
   ·refine own_zn X811 q d0_208 (((if0 _ _).trans (feq hc208_812).1)) (own_k X811 q d0_211 (own_is X811 q d0_212 (l' := #[.val (.int p1), .val (.int p2), .val (.int p3), .val (.int p4), .val (.int p5), .val v'4, .val (.int z755), .val (.int z757), .val (.int z759), .val (.int z761), .val (.ref b764), .val v'1]) rfl (own_il X811 q d0_214 rfl (own_k X811 q d0_216 (own_cn X811 q d0_217 ((tlt ((by decide) : (2 : Int32) < (4 : Int32))).2.2.2) (own_il X811 q d0_220 rfl ?_))))))
    refine own_cS X811 q hZ e811 hown hml (W 81 rfl) (W 82 rfl) (W 3 rfl) (W 83 rfl) (rm18 l Z a0 hw z759 h777 n0 zs778) d0_222 [(.int z759)] [] own_pd14 rfl rfl 0 (Nat.le_refl _) (by decide) (fun v827 T827 L827 X827 hQ827 => ?_)
    obtain ⟨z827, rfl, N827q, e827, hM827⟩ := hQ827
    have N827 := Fr.app N811 N827q
    refine own_nv ?_
    by_cases hc225_828 : z827 = (0 : Int32)
    ·refine own_zy X827 q d0_225 (((if0 _ _).trans (teq hc225_828).1)) (own_il X827 q d0_231 rfl (own_k X827 q d0_233 (own_cn X827 q d0_234 ((tlt ((by decide) : (3 : Int32) < (4 : Int32))).2.2.2) (own_il X827 q d0_237 rfl ?_))))
     refine own_cS X827 q hZ e827 hown hml (W 81 rfl) (W 82 rfl) (W 3 rfl) (W 83 rfl) (rm18 l Z a0 hw z761 h777 n0 zs778) d0_239 [(.int z761)] [] own_pd14 rfl rfl 0 (Nat.le_refl _) (by decide) (fun v829 T829 L829 X829 hQ829 => ?_)
     obtain ⟨z829, rfl, N829q, e829, hM829⟩ := hQ829
     have N829 := Fr.app N827 N829q
     refine own_nv ?_
     by_cases hc242_830 : z829 = (0 : Int32)
     ·refine own_zy X829 q d0_242 (((if0 _ _).trans (teq hc242_830).1)) (own_al X829 q d0_248 rfl rfl ?_)
      refine own_cS X829 q hZ e829 hown hml (W 27 rfl) (W 28 rfl) (W 29 rfl) (W 30 rfl) (rm5_4 l Z a0 hw b764 t777 k777 (nar .byte ((nar .char z755).toInt8.toInt32)) (nar .byte ((nar .char z757).toInt8.toInt32)) (nar .byte ((nar .char z759).toInt8.toInt32)) (nar .byte ((nar .char z761).toInt8.toInt32)) cs0 h777 n0 zs778 ((((((A764.ext E767).wr W769).wr W771).wr W773).wr W775).keep K777) Fv777 V777 od778 ⟨SCS, hcs⟩ Fc777) d0_250 [(.ref b764)] [] own_pd13 rfl rfl 0 (Nat.le_refl _) (by decide) (fun v831 T831 L831 X831 hQ831 => ?_)
      obtain ⟨z831, rfl, N831q, e831, hP831⟩ := hQ831
      have N831 := Fr.app N829 N831q
      refine own_nv (own_il X831 q d0_253 rfl ?_)
      have hE832 : z831 = (1 : Int32) := by
       have v_z755 := own_w1 hM779 hc191_780
       have v_z757 := own_w1 hM811 hc208_812
       have v_z759 := own_w0 hM827 hc225_828
       have v_z761 := own_w0 hM829 hc242_830
       rcases hP831 with ⟨hq, r⟩ | ⟨hq, r⟩
       ·exact hq
       ·exfalso
        simp only [List.mem_cons, List.not_mem_nil, or_false, own_b42 c8_z755, own_b63 c8_z755, own_b42 c8_z757, own_b63 c8_z757, own_b42 c8_z759, own_b63 c8_z759, own_b42 c8_z761, own_b63 c8_z761] at r
        rcases v_z755 with q | q
        ·exact r (Or.inl (Or.inl q))
        ·exact r (Or.inr (Or.inl q))
      refine own_cn X831 q d0_255 ((teq (hE832 : z831 = (1 : Int32))).2) (own_k X831 q d0_258 (own_gt X831 q d0_259 ?_))
      refine own_retNW X831 hS0 (by rw [e831]; exact hk778) hx (t := .boolean) Bd.returns (by simp) (q.d d0_263) hlk ?_ (by decide) (by decide)
      exact ⟨rfl, N831⟩
     ·refine own_zn X829 q d0_242 (((if0 _ _).trans (feq hc242_830).1)) (own_k X829 q d0_245 (own_is X829 q d0_246 (l' := #[.val (.int p1), .val (.int p2), .val (.int p3), .val (.int p4), .val (.int p5), .val v'4, .val (.int z755), .val (.int z757), .val (.int z759), .val (.int z761), .val (.ref b764), .val v'1]) rfl (own_al X829 q d0_248 rfl rfl ?_)))
      refine own_cS X829 q hZ e829 hown hml (W 27 rfl) (W 28 rfl) (W 29 rfl) (W 30 rfl) (rm5_4 l Z a0 hw b764 t777 k777 (nar .byte ((nar .char z755).toInt8.toInt32)) (nar .byte ((nar .char z757).toInt8.toInt32)) (nar .byte ((nar .char z759).toInt8.toInt32)) (nar .byte ((nar .char z761).toInt8.toInt32)) cs0 h777 n0 zs778 ((((((A764.ext E767).wr W769).wr W771).wr W773).wr W775).keep K777) Fv777 V777 od778 ⟨SCS, hcs⟩ Fc777) d0_250 [(.ref b764)] [] own_pd13 rfl rfl 0 (Nat.le_refl _) (by decide) (fun v833 T833 L833 X833 hQ833 => ?_)
      obtain ⟨z833, rfl, N833q, e833, hP833⟩ := hQ833
      have N833 := Fr.app N829 N833q
      refine own_nv (own_il X833 q d0_253 rfl ?_)
      have hE834 : z833 = (1 : Int32) := by
       have v_z755 := own_w1 hM779 hc191_780
       have v_z757 := own_w1 hM811 hc208_812
       have v_z759 := own_w0 hM827 hc225_828
       have v_z761 := own_w1 hM829 hc242_830
       rcases hP833 with ⟨hq, r⟩ | ⟨hq, r⟩
       ·exact hq
       ·exfalso
        simp only [List.mem_cons, List.not_mem_nil, or_false, own_b42 c8_z755, own_b63 c8_z755, own_b42 c8_z757, own_b63 c8_z757, own_b42 c8_z759, own_b63 c8_z759, own_b42 c8_z761, own_b63 c8_z761] at r
        rcases v_z755 with q | q
        ·exact r (Or.inl (Or.inl q))
        ·exact r (Or.inr (Or.inl q))
      refine own_cn X833 q d0_255 ((teq (hE834 : z833 = (1 : Int32))).2) (own_k X833 q d0_258 (own_gt X833 q d0_259 ?_))
      refine own_retNW X833 hS0 (by rw [e833]; exact hk778) hx (t := .boolean) Bd.returns (by simp) (q.d d0_263) hlk ?_ (by decide) (by decide)
      exact ⟨rfl, N833⟩
    ·refine own_zn X827 q d0_225 (((if0 _ _).trans (feq hc225_828).1)) (own_k X827 q d0_228 (own_is X827 q d0_229 (l' := #[.val (.int p1), .val (.int p2), .val (.int p3), .val (.int p4), .val (.int p5), .val v'4, .val (.int z755), .val (.int z757), .val (.int z759), .val (.int z761), .val (.ref b764), .val v'1]) rfl (own_il X827 q d0_231 rfl (own_k X827 q d0_233 (own_cn X827 q d0_234 ((tlt ((by decide) : (3 : Int32) < (4 : Int32))).2.2.2) (own_il X827 q d0_237 rfl ?_))))))
     refine own_cS X827 q hZ e827 hown hml (W 81 rfl) (W 82 rfl) (W 3 rfl) (W 83 rfl) (rm18 l Z a0 hw z761 h777 n0 zs778) d0_239 [(.int z761)] [] own_pd14 rfl rfl 0 (Nat.le_refl _) (by decide) (fun v835 T835 L835 X835 hQ835 => ?_)
     obtain ⟨z835, rfl, N835q, e835, hM835⟩ := hQ835
     have N835 := Fr.app N827 N835q
     refine own_nv ?_
     by_cases hc242_836 : z835 = (0 : Int32)
     ·refine own_zy X835 q d0_242 (((if0 _ _).trans (teq hc242_836).1)) (own_al X835 q d0_248 rfl rfl ?_)
      refine own_cS X835 q hZ e835 hown hml (W 27 rfl) (W 28 rfl) (W 29 rfl) (W 30 rfl) (rm5_4 l Z a0 hw b764 t777 k777 (nar .byte ((nar .char z755).toInt8.toInt32)) (nar .byte ((nar .char z757).toInt8.toInt32)) (nar .byte ((nar .char z759).toInt8.toInt32)) (nar .byte ((nar .char z761).toInt8.toInt32)) cs0 h777 n0 zs778 ((((((A764.ext E767).wr W769).wr W771).wr W773).wr W775).keep K777) Fv777 V777 od778 ⟨SCS, hcs⟩ Fc777) d0_250 [(.ref b764)] [] own_pd13 rfl rfl 0 (Nat.le_refl _) (by decide) (fun v837 T837 L837 X837 hQ837 => ?_)
      obtain ⟨z837, rfl, N837q, e837, hP837⟩ := hQ837
      have N837 := Fr.app N835 N837q
      refine own_nv (own_il X837 q d0_253 rfl ?_)
      have hE838 : z837 = (1 : Int32) := by
       have v_z755 := own_w1 hM779 hc191_780
       have v_z757 := own_w1 hM811 hc208_812
       have v_z759 := own_w1 hM827 hc225_828
       have v_z761 := own_w0 hM835 hc242_836
       rcases hP837 with ⟨hq, r⟩ | ⟨hq, r⟩
       ·exact hq
       ·exfalso
        simp only [List.mem_cons, List.not_mem_nil, or_false, own_b42 c8_z755, own_b63 c8_z755, own_b42 c8_z757, own_b63 c8_z757, own_b42 c8_z759, own_b63 c8_z759, own_b42 c8_z761, own_b63 c8_z761] at r
        rcases v_z755 with q | q
        ·exact r (Or.inl (Or.inl q))
        ·exact r (Or.inr (Or.inl q))
      refine own_cn X837 q d0_255 ((teq (hE838 : z837 = (1 : Int32))).2) (own_k X837 q d0_258 (own_gt X837 q d0_259 ?_))
      refine own_retNW X837 hS0 (by rw [e837]; exact hk778) hx (t := .boolean) Bd.returns (by simp) (q.d d0_263) hlk ?_ (by decide) (by decide)
      exact ⟨rfl, N837⟩
     ·refine own_zn X835 q d0_242 (((if0 _ _).trans (feq hc242_836).1)) (own_k X835 q d0_245 (own_is X835 q d0_246 (l' := #[.val (.int p1), .val (.int p2), .val (.int p3), .val (.int p4), .val (.int p5), .val v'4, .val (.int z755), .val (.int z757), .val (.int z759), .val (.int z761), .val (.ref b764), .val v'1]) rfl (own_al X835 q d0_248 rfl rfl ?_)))
      refine own_cS X835 q hZ e835 hown hml (W 27 rfl) (W 28 rfl) (W 29 rfl) (W 30 rfl) (rm5_4 l Z a0 hw b764 t777 k777 (nar .byte ((nar .char z755).toInt8.toInt32)) (nar .byte ((nar .char z757).toInt8.toInt32)) (nar .byte ((nar .char z759).toInt8.toInt32)) (nar .byte ((nar .char z761).toInt8.toInt32)) cs0 h777 n0 zs778 ((((((A764.ext E767).wr W769).wr W771).wr W773).wr W775).keep K777) Fv777 V777 od778 ⟨SCS, hcs⟩ Fc777) d0_250 [(.ref b764)] [] own_pd13 rfl rfl 0 (Nat.le_refl _) (by decide) (fun v839 T839 L839 X839 hQ839 => ?_)
      obtain ⟨z839, rfl, N839q, e839, hP839⟩ := hQ839
      have N839 := Fr.app N835 N839q
      refine own_nv (own_il X839 q d0_253 rfl ?_)
      have hE840 : z839 = (1 : Int32) := by
       have v_z755 := own_w1 hM779 hc191_780
       have v_z757 := own_w1 hM811 hc208_812
       have v_z759 := own_w1 hM827 hc225_828
       have v_z761 := own_w1 hM835 hc242_836
       rcases hP839 with ⟨hq, r⟩ | ⟨hq, r⟩
       ·exact hq
       ·exfalso
        simp only [List.mem_cons, List.not_mem_nil, or_false, own_b42 c8_z755, own_b63 c8_z755, own_b42 c8_z757, own_b63 c8_z757, own_b42 c8_z759, own_b63 c8_z759, own_b42 c8_z761, own_b63 c8_z761] at r
        rcases v_z755 with q | q
        ·exact r (Or.inl (Or.inl q))
        ·exact r (Or.inr (Or.inl q))
      refine own_cn X839 q d0_255 ((teq (hE840 : z839 = (1 : Int32))).2) (own_k X839 q d0_258 (own_gt X839 q d0_259 ?_))
      refine own_retNW X839 hS0 (by rw [e839]; exact hk778) hx (t := .boolean) Bd.returns (by simp) (q.d d0_263) hlk ?_ (by decide) (by decide)
      exact ⟨rfl, N839⟩
set_option maxRecDepth 65536 in
set_option maxHeartbeats 40000000 in
theorem comes_1 {Post : Tables → Env → Array Value → State → Outcome → State → Prop} (hpost : ∀ tb e args s v u, (limb_1_1.after args s (.returned v) u = true ∧ limb_1_2.after args s (.returned v) u = true ∧ True) → ReturnedEndW s (.returned v) u (Jvm.fieldLocs frame_1_writes args s ++ Jvm.arrayLocs frame_1_arrays args s ++ Jvm.staticLocs frame_1_statics s) 16 1152 → Post tb e args s (.returned v) u) :
  ArmFor flags0 classFile x code maxLocals ret World_1 tables_1 room_1 Calls_1 rest_1 Pre_1 Post := by
 intro l hfl _ _ p e ha hc hk s m args below hf hA hF happ hP
 obtain ⟨hcalls, hrest, hpre⟩ := hP
 obtain ⟨-, -, -, hnamed, -, -, -, hat⟩ := (Spec.applies_iff hf).mp happ
 obtain ⟨hg, hn⟩ := and_e (Cond.before_iff.mp (show (Jvm.Cond.and given_1 narrow_1).before args s = true from hpre))
 obtain ⟨g0, hg⟩ := and_e hg
 obtain ⟨g1, hg⟩ := and_e hg
 obtain ⟨g2, hg⟩ := and_e hg
 obtain ⟨g3, hg⟩ := and_e hg
 obtain ⟨g4, g5⟩ := and_e hg
 obtain ⟨w0, w1, w2, w3, w4, rfl⟩ : ∃ w0 w1 w2 w3 w4 : Value, args = #[w0, w1, w2, w3, w4] := by
  have hs : args.size = 5 := by simpa [Cond.value, given_1] using g0
  obtain ⟨L⟩ := args
  match L, hs with
  | [w0, w1, w2, w3, w4], _ => exact ⟨w0, w1, w2, w3, w4, rfl⟩
 have hw := fun d (hd : d ∈ tables_1) => atoms_spec (ws := Jvm.Cond.code x code maxLocals ret :: tables_1) hat d (List.mem_cons_of_mem _ hd)
 have hfit : Fit s := fun {y c} hc i hi => by
  obtain ⟨ha, rfl⟩ := Array.getElem?_eq_some_iff.mp hc
  have q := List.all_eq_true.mp ((Array.all_eq_true_iff_forall_mem.mp hF) _ (Array.getElem_mem ha)) i (List.mem_range.mpr hi)
  simpa [Array.getElem?_eq_getElem hi] using q
 have W := @own_w _ _ hw
 obtain ⟨i0, ei0⟩ := is_v g1
 obtain rfl : w0 = (.int i0) := Option.some.inj ei0
 obtain ⟨i1, ei1⟩ := is_v g2
 obtain rfl : w1 = (.int i1) := Option.some.inj ei1
 obtain ⟨i2, ei2⟩ := is_v g3
 obtain rfl : w2 = (.int i2) := Option.some.inj ei2
 obtain ⟨i3, ei3⟩ := is_v g4
 obtain rfl : w3 = (.int i3) := Option.some.inj ei3
 obtain ⟨i4, ei4⟩ := is_v g5
 obtain rfl : w4 = (.int i4) := Option.some.inj ei4
 obtain ⟨hsets, hown0⟩ := atoms_of _ (rest_1_c_eq ▸ (show rest_1_c.before _ s = true from hrest))
 obtain ⟨cs0, ecs⟩ := is_v (Cond.before_iff.mp (hsets _ (List.mem_of_getElem? (i := 1) rfl)))
 have SCS : Sta s s.heap "java/lang/String" "COMPACT_STRINGS" "Z" (.int cs0) := Sta.start ecs (Or.inl (hsets _ (List.mem_of_getElem? (i := 0) rfl)))
 have hcs : ¬ cs0 = 0 := gotF (Cond.eq_ints ecs (Term.int_eval (0))) (not_v (Cond.before_iff.mp (hsets _ (List.mem_of_getElem? (i := 2) rfl))))
 obtain ⟨n, o, h1, h2, h3, _, L, rfl, ⟨rfl, N⟩, hq⟩ := rm0 l s _ hw tables_1 i0 i1 i2 i3 i4 cs0 s.heap s.heap.size (Nat.le_refl _) (Old.start s) ⟨SCS, hcs⟩ (EW.cons (W 19 rfl) (by simp) EW.nil) p e ha hc hk s m _ below hf ((Spec.applies_iff_loose hf).mp happ).1 ⟨rfl, State.Warmed39.refl s, rfl, CHv.start (EW.cons (W 19 rfl) (by simp) EW.nil) (fun p hp => hcalls.1 p hp) (hsets _ (List.mem_of_getElem? (i := 2) rfl)) (W 20 rfl) (W 6 rfl)⟩ trivial
 refine ⟨n, _, h1, h2, h3, hpost _ _ _ _ _ _ ⟨Cond.after_iff.mpr rfl, Cond.after_iff.mpr (eq_i res_at (Term.int_eval (1)) rfl), trivial⟩ ⟨hq.1, hq.2.1, hq.2.2.1, (hq.2.2.2.sift fun y hy => Or.inr (N y hy)).mono (by decide) (by decide)⟩⟩
theorem main_1_1 : Claimed_1_1 := comes_1 fun _ _ _ _ _ _ h hF => ⟨h.1, hF⟩
theorem main_1_2 : Claimed_1_2 := comes_1 fun _ _ _ _ _ _ h hF => ⟨h.2.1, hF⟩
end Jvm.Pilot.@@N@@
namespace Jvm.Pilot.@@N@@
open Jvm Jvm.ClassFile Sem Op Lib Jvm.Free Jvm.Stand Jvm.Pilot.@@N@@.Jvm.D
/-! MADE BY PROGRAM (witnessworld.py) out of the Statement's table words and the real class files: 21 classes; the members and pool entries that the words name. The judged class is class 1, her method 3. -/
namespace start1
open Jvm.ClassFile
def u (s : String) : CpInfo := .utf8 (stringToUtf16 s)
/-- a pool by its gaps: so many unusable entries, then the entry; so many at the end -/
def gap : Nat → List CpInfo → List CpInfo
  | 0, r => r
  | n + 1, r => .unusable :: gap n r
def poolList (es : List (Nat × CpInfo)) (last : Nat) : List CpInfo := es.foldr (fun e r => gap e.1 (e.2 :: r)) (gap last [])
def pool (es : List (Nat × CpInfo)) (last : Nat) : Array CpInfo := ⟨poolList es last⟩
def fileOf (pool : Array CpInfo) (this : Nat) (attrs : Array Attribute := #[]) (ms : Array MethodInfo := #[]) (fl : Nat := 33) (sup : Nat := 0) (ifs : Array Nat := #[]) (fds : Array FieldInfo := #[]) : ClassFile where
  minorVersion := 0
  majorVersion := 65
  constantPool := pool
  accessFlags := fl
  thisClass := this
  superClass := sup
  interfaces := ifs
  fields := fds
  methods := ms
  attributes := attrs
def plain (name : String) (sup : Option ClassId) : Class where
  name := name
  kind := .ordinary
  loader := none
  accessFlags := 33
  super := sup
  interfaces := #[]
  cf := none
  fields := #[]
  methods := #[]
  instanceTypes := #[]
  staticTypes := #[]
  resolved := #[]
  callSites := []
  init := .initialized
  statics := none
  mirror := none

def pool0 : Array CpInfo := pool [(5, u "<init>"), (0, u "()V"), (1, .class_ 10), (1, u "java/lang/Object")] 113

def k0c0 : Code := { maxStack := 0, maxLocals := 1, code := object_method_1_code, exceptionTable := #[], attributes := #[] }
def k0m0 : Method := { name := "<init>", desc := "()V", sig := { parameters := [], returnType := none }, accessFlags := 1, code := some k0c0 }
/-- java/lang/Object -/
def k0 : Class := { plain "java/lang/Object" none with
  accessFlags := 33
  interfaces := #[]
  cf := some (fileOf pool0 8 #[] #[{ accessFlags := 1, nameIndex := 5, descriptorIndex := 6, attributes := #[] }] 33 0 #[] #[])
  fields := #[]
  methods := #[k0m0]
  instanceTypes := #[]
  staticTypes := #[]
  resolved := Array.replicate 124 none
  statics := none }

def pool1 : Array CpInfo := pool [(2, .class_ 4), (1, u "java/lang/Object"), (0, u "<init>"), (0, u "()V"), (0, .integer 2147483647), (0, .methodref 9 10), (0, .class_ 11), (0, .nameAndType 12 13), (0, u "com/example/endpoint/endpoint/maven/PathPatternIsPatternPinLaw"), (0, u "draw"), (0, u "(I)C"), (0, .class_ 15), (0, u "java/lang/String"), (0, .methodref 14 17), (0, .nameAndType 5 18), (0, u "([C)V"), (0, .methodref 9 20), (0, .nameAndType 21 22), (0, u "wild"), (0, u "(C)Z"), (0, .methodref 24 25), (0, .class_ 26), (0, .nameAndType 27 28), (0, u "com/example/endpoint/endpoint/maven/PathPattern"), (0, u "isPattern"), (0, u "(Ljava/lang/String;)Z"), (3, u "law"), (0, u "(IIIII)Z")] 2

def k1m0 : Method := { name := "<init>", desc := "()V", sig := { parameters := [], returnType := none }, accessFlags := 2, code := none }
def k1c1 : Code := { maxStack := 2, maxLocals := 2, code := method_2_code, exceptionTable := #[], attributes := #[] }
def k1m1 : Method := { name := "draw", desc := "(I)C", sig := { parameters := [.int], returnType := some .char }, accessFlags := 10, code := some k1c1 }
def k1c2 : Code := { maxStack := 2, maxLocals := 1, code := method_3_code, exceptionTable := #[], attributes := #[] }
def k1m2 : Method := { name := "wild", desc := "(C)Z", sig := { parameters := [.char], returnType := some .boolean }, accessFlags := 10, code := some k1c2 }
def k1c3 : Code := { maxStack := 6, maxLocals := 12, code := code, exceptionTable := #[], attributes := #[] }
def k1m3 : Method := { name := "law", desc := "(IIIII)Z", sig := { parameters := [.int, .int, .int, .int, .int], returnType := some .boolean }, accessFlags := 9, code := some k1c3 }
/-- com/example/endpoint/endpoint/maven/PathPatternIsPatternPinLaw -/
def k1 : Class := { plain "com/example/endpoint/endpoint/maven/PathPatternIsPatternPinLaw" (some 0) with
  accessFlags := 49
  interfaces := #[]
  cf := some (fileOf pool1 9 #[] #[{ accessFlags := 2, nameIndex := 5, descriptorIndex := 6, attributes := #[] }, { accessFlags := 10, nameIndex := 12, descriptorIndex := 13, attributes := #[] }, { accessFlags := 10, nameIndex := 21, descriptorIndex := 22, attributes := #[] }, { accessFlags := 9, nameIndex := 32, descriptorIndex := 33, attributes := #[] }] 49 2 #[] #[])
  fields := #[]
  methods := #[k1m0, k1m1, k1m2, k1m3]
  instanceTypes := #[]
  staticTypes := #[]
  resolved := Array.replicate 36 none
  statics := none }

def pool2 : Array CpInfo := pool [(1, .class_ 2), (0, u "java/io/Serializable"), (0, .class_ 4), (0, u "java/lang/Object")] 2

/-- java/io/Serializable -/
def k2 : Class := { plain "java/io/Serializable" (some 0) with
  accessFlags := 1537
  interfaces := #[]
  cf := some (fileOf pool2 1 #[] #[] 1537 3 #[] #[])
  fields := #[]
  methods := #[]
  instanceTypes := #[]
  staticTypes := #[]
  resolved := Array.replicate 7 none
  statics := none }

def pool3 : Array CpInfo := pool [(1, .class_ 2), (0, u "java/lang/Comparable"), (0, .class_ 4), (0, u "java/lang/Object")] 7

/-- java/lang/Comparable -/
def k3 : Class := { plain "java/lang/Comparable" (some 0) with
  accessFlags := 1537
  interfaces := #[]
  cf := some (fileOf pool3 1 #[] #[] 1537 3 #[] #[])
  fields := #[]
  methods := #[]
  instanceTypes := #[]
  staticTypes := #[]
  resolved := Array.replicate 12 none
  statics := none }

def pool4 : Array CpInfo := pool [(2, .class_ 4), (1, u "java/lang/CharSequence"), (42, .class_ 48), (0, u "java/lang/CharSequence$1CodePointIterator"), (10, .class_ 60), (0, u "java/lang/CharSequence$1CharIterator"), (5, .class_ 67), (0, u "java/lang/Object")] 63

/-- java/lang/CharSequence -/
def k4 : Class := { plain "java/lang/CharSequence" (some 0) with
  accessFlags := 1537
  interfaces := #[]
  cf := some (fileOf pool4 2 #[.nestMembers #[47, 59]] #[] 1537 66 #[] #[])
  fields := #[]
  methods := #[]
  instanceTypes := #[]
  staticTypes := #[]
  resolved := Array.replicate 131 none
  statics := none }

def pool5 : Array CpInfo := pool [(1, .class_ 2), (0, u "java/lang/constant/Constable"), (0, .class_ 4), (0, u "java/lang/Object")] 6

/-- java/lang/constant/Constable -/
def k5 : Class := { plain "java/lang/constant/Constable" (some 0) with
  accessFlags := 1537
  interfaces := #[]
  cf := some (fileOf pool5 1 #[] #[] 1537 3 #[] #[])
  fields := #[]
  methods := #[]
  instanceTypes := #[]
  staticTypes := #[]
  resolved := Array.replicate 11 none
  statics := none }

def pool6 : Array CpInfo := pool [(1, .class_ 2), (0, u "java/lang/constant/ConstantDesc"), (0, .class_ 4), (0, u "java/lang/Object")] 32

/-- java/lang/constant/ConstantDesc -/
def k6 : Class := { plain "java/lang/constant/ConstantDesc" (some 0) with
  accessFlags := 1537
  interfaces := #[]
  cf := some (fileOf pool6 1 #[] #[] 1537 3 #[] #[])
  fields := #[]
  methods := #[]
  instanceTypes := #[]
  staticTypes := #[]
  resolved := Array.replicate 37 none
  statics := none }

def pool7 : Array CpInfo := pool [(1, .methodref 2 3), (0, .class_ 4), (0, .nameAndType 5 6), (0, u "java/lang/Object"), (0, u "<init>"), (0, u "()V"), (0, .string 8), (0, u ""), (0, .fieldref 10 11), (0, .class_ 12), (0, .nameAndType 13 14), (0, u "java/lang/String"), (0, u "value"), (0, u "[B"), (0, .fieldref 10 16), (0, .nameAndType 17 18), (0, u "coder"), (0, u "B"), (2, u "hash"), (0, u "I"), (2, u "hashIsZero"), (0, u "Z"), (0, .methodref 10 28), (0, .nameAndType 5 29), (0, u "([CIILjava/lang/Void;)V"), (8, .fieldref 10 39), (0, .nameAndType 40 26), (0, u "COMPACT_STRINGS"), (1, .class_ 44), (1, u "java/lang/StringUTF16"), (0, u "compress"), (1, .methodref 42 48), (0, .nameAndType 49 50), (0, u "coderFromArrayLen"), (0, u "([BI)B"), (56, .class_ 109), (1, u "java/lang/StringLatin1"), (32, u "()Z"), (34, .methodref 42 178), (0, .nameAndType 45 179), (0, u "([CII)[B"), (154, u "()I"), (0, .methodref 10 336), (0, .nameAndType 17 337), (0, u "()B"), (154, .methodref 10 493), (0, .nameAndType 494 142), (0, u "isLatin1"), (10, .methodref 10 506), (0, .nameAndType 507 334), (0, u "length"), (67, .class_ 576), (0, u "java/lang/CharSequence"), (22, u "CASE_INSENSITIVE_ORDER"), (0, u "Ljava/util/Comparator;"), (32, .methodref 10 634), (0, .nameAndType 635 636), (0, u "indexOf"), (0, u "(II)I"), (0, .methodref 107 638), (0, .nameAndType 635 639), (0, u "([BIII)I"), (125, u "(I)I"), (244, u "([C)V"), (90, u "serialPersistentFields"), (0, u "[Ljava/io/ObjectStreamField;"), (0, .class_ 1104), (0, u "java/lang/String$CaseInsensitiveComparator"), (1, .class_ 1107), (0, u "java/io/Serializable"), (0, .class_ 1109), (0, u "java/lang/Comparable"), (0, .class_ 1111), (0, u "java/lang/constant/Constable"), (0, .class_ 1113), (0, u "java/lang/constant/ConstantDesc"), (2, u "serialVersionUID"), (0, u "J"), (3, u "REPL"), (0, u "C"), (2, u "LATIN1"), (1, u "UTF16")] 323

def k7m0 : Method := { name := "<init>", desc := "()V", sig := { parameters := [], returnType := none }, accessFlags := 1, code := none }
def k7c1 : Code := { maxStack := 5, maxLocals := 2, code := jdk_42_method_3_code, exceptionTable := #[], attributes := #[] }
def k7m1 : Method := { name := "<init>", desc := "([C)V", sig := { parameters := [(.array .char)], returnType := none }, accessFlags := 1, code := some k7c1 }
def k7c2 : Code := { maxStack := 2, maxLocals := 1, code := jdk_42_method_54_code, exceptionTable := #[], attributes := #[] }
def k7m2 : Method := { name := "length", desc := "()I", sig := { parameters := [], returnType := some .int }, accessFlags := 1, code := some k7c2 }
def k7c3 : Code := { maxStack := 3, maxLocals := 2, code := jdk_42_method_79_code, exceptionTable := #[], attributes := #[] }
def k7m3 : Method := { name := "indexOf", desc := "(I)I", sig := { parameters := [.int], returnType := some .int }, accessFlags := 1, code := some k7c3 }
def k7c4 : Code := { maxStack := 4, maxLocals := 3, code := jdk_42_method_80_code, exceptionTable := #[], attributes := #[] }
def k7m4 : Method := { name := "indexOf", desc := "(II)I", sig := { parameters := [.int, .int], returnType := some .int }, accessFlags := 1, code := some k7c4 }
def k7c5 : Code := { maxStack := 4, maxLocals := 6, code := jdk_42_method_149_code, exceptionTable := #[], attributes := #[] }
def k7m5 : Method := { name := "<init>", desc := "([CIILjava/lang/Void;)V", sig := { parameters := [(.array .char), .int, .int, (.object "java/lang/Void")], returnType := none }, accessFlags := 2, code := some k7c5 }
def k7c6 : Code := { maxStack := 1, maxLocals := 1, code := jdk_42_method_152_code, exceptionTable := #[], attributes := #[] }
def k7m6 : Method := { name := "coder", desc := "()B", sig := { parameters := [], returnType := some .byte }, accessFlags := 0, code := some k7c6 }
def k7c7 : Code := { maxStack := 1, maxLocals := 1, code := jdk_42_method_154_code, exceptionTable := #[], attributes := #[] }
def k7m7 : Method := { name := "isLatin1", desc := "()Z", sig := { parameters := [], returnType := some .boolean }, accessFlags := 0, code := some k7c7 }
/-- java/lang/String -/
def k7 : Class := { plain "java/lang/String" (some 0) with
  accessFlags := 49
  interfaces := #[2, 3, 4, 5, 6]
  cf := some (fileOf pool7 10 #[.nestMembers #[1103]] #[{ accessFlags := 1, nameIndex := 5, descriptorIndex := 6, attributes := #[] }, { accessFlags := 1, nameIndex := 5, descriptorIndex := 1010, attributes := #[] }, { accessFlags := 1, nameIndex := 507, descriptorIndex := 334, attributes := #[] }, { accessFlags := 1, nameIndex := 635, descriptorIndex := 765, attributes := #[] }, { accessFlags := 1, nameIndex := 635, descriptorIndex := 636, attributes := #[] }, { accessFlags := 2, nameIndex := 5, descriptorIndex := 29, attributes := #[] }, { accessFlags := 0, nameIndex := 17, descriptorIndex := 337, attributes := #[] }, { accessFlags := 0, nameIndex := 494, descriptorIndex := 142, attributes := #[] }] 49 2 #[1106, 1108, 575, 1110, 1112] #[{ accessFlags := 18, nameIndex := 13, descriptorIndex := 14, attributes := #[] }, { accessFlags := 18, nameIndex := 17, descriptorIndex := 18, attributes := #[] }, { accessFlags := 2, nameIndex := 21, descriptorIndex := 22, attributes := #[] }, { accessFlags := 2, nameIndex := 25, descriptorIndex := 26, attributes := #[] }, { accessFlags := 26, nameIndex := 1116, descriptorIndex := 1117, attributes := #[] }, { accessFlags := 24, nameIndex := 40, descriptorIndex := 26, attributes := #[] }, { accessFlags := 26, nameIndex := 1101, descriptorIndex := 1102, attributes := #[] }, { accessFlags := 26, nameIndex := 1121, descriptorIndex := 1122, attributes := #[] }, { accessFlags := 25, nameIndex := 599, descriptorIndex := 600, attributes := #[] }, { accessFlags := 24, nameIndex := 1125, descriptorIndex := 18, attributes := #[] }, { accessFlags := 24, nameIndex := 1127, descriptorIndex := 18, attributes := #[] }])
  fields := #[{ name := "value", type := (.array .byte), accessFlags := 18, slot := 0, constantValue := 0 }, { name := "coder", type := .byte, accessFlags := 18, slot := 1, constantValue := 0 }, { name := "hash", type := .int, accessFlags := 2, slot := 2, constantValue := 0 }, { name := "hashIsZero", type := .boolean, accessFlags := 2, slot := 3, constantValue := 0 }, { name := "serialVersionUID", type := .long, accessFlags := 26, slot := 0, constantValue := 0 }, { name := "COMPACT_STRINGS", type := .boolean, accessFlags := 24, slot := 1, constantValue := 0 }, { name := "serialPersistentFields", type := (.array (.object "java/io/ObjectStreamField")), accessFlags := 26, slot := 2, constantValue := 0 }, { name := "REPL", type := .char, accessFlags := 26, slot := 3, constantValue := 0 }, { name := "CASE_INSENSITIVE_ORDER", type := (.object "java/util/Comparator"), accessFlags := 25, slot := 4, constantValue := 0 }, { name := "LATIN1", type := .byte, accessFlags := 24, slot := 5, constantValue := 0 }, { name := "UTF16", type := .byte, accessFlags := 24, slot := 6, constantValue := 0 }]
  methods := #[k7m0, k7m1, k7m2, k7m3, k7m4, k7m5, k7m6, k7m7]
  instanceTypes := #[(.array .byte), .byte, .int, .boolean]
  staticTypes := #[.long, .boolean, (.array (.object "java/io/ObjectStreamField")), .char, (.object "java/util/Comparator"), .byte, .byte]
  resolved := Array.replicate 1451 none
  statics := some 0 }

def pool8 : Array CpInfo := pool [(2, .class_ 4), (1, u "java/lang/Object"), (5, .class_ 12), (1, u "java/lang/String"), (3, .class_ 18), (1, u "com/example/endpoint/endpoint/maven/PathPattern"), (0, u "isPattern"), (0, u "(Ljava/lang/String;)Z"), (33, u "start"), (0, u "Ljava/nio/file/Path;"), (12, u "below"), (0, u "Ljava/util/regex/Pattern;"), (0, .methodref 10 71), (0, .nameAndType 72 73), (0, u "indexOf"), (0, u "(I)I"), (20, .class_ 95), (0, u "com/example/endpoint/endpoint/maven/PathPattern$1")] 122

def k8c0 : Code := { maxStack := 2, maxLocals := 1, code := prog_14_method_2_code, exceptionTable := #[], attributes := #[] }
def k8m0 : Method := { name := "isPattern", desc := "(Ljava/lang/String;)Z", sig := { parameters := [(.object "java/lang/String")], returnType := some .boolean }, accessFlags := 8, code := some k8c0 }
/-- com/example/endpoint/endpoint/maven/PathPattern -/
def k8 : Class := { plain "com/example/endpoint/endpoint/maven/PathPattern" (some 0) with
  accessFlags := 32
  interfaces := #[]
  cf := some (fileOf pool8 16 #[.nestMembers #[94]] #[{ accessFlags := 8, nameIndex := 19, descriptorIndex := 20, attributes := #[] }] 32 2 #[] #[{ accessFlags := 18, nameIndex := 54, descriptorIndex := 55, attributes := #[] }, { accessFlags := 18, nameIndex := 68, descriptorIndex := 69, attributes := #[] }])
  fields := #[{ name := "start", type := (.object "java/nio/file/Path"), accessFlags := 18, slot := 0, constantValue := 0 }, { name := "below", type := (.object "java/util/regex/Pattern"), accessFlags := 18, slot := 1, constantValue := 0 }]
  methods := #[k8m0]
  instanceTypes := #[(.object "java/nio/file/Path"), (.object "java/util/regex/Pattern")]
  staticTypes := #[]
  resolved := Array.replicate 218 none
  statics := none }

def pool9 : Array CpInfo := pool [(4, .class_ 6), (1, u "java/lang/Object"), (0, u "<init>"), (0, u "()V"), (5, .class_ 16), (1, u "java/lang/StringLatin1"), (21, .methodref 39 40), (0, .class_ 41), (0, .nameAndType 42 43), (0, u "java/lang/Math"), (0, u "min"), (0, u "(II)I"), (44, .methodref 14 89), (0, .nameAndType 90 91), (0, u "canEncode"), (0, u "(I)Z"), (0, .methodref 39 93), (0, .nameAndType 94 43), (0, u "max"), (0, .methodref 14 96), (0, .nameAndType 97 98), (0, u "indexOfChar"), (0, u "([BIII)I"), (2, u "indexOf"), (19, u "$assertionsDisabled"), (0, u "Z"), (98, .class_ 223), (1, u "java/lang/StringLatin1$LinesSpliterator"), (166, .class_ 391), (0, u "java/lang/StringLatin1$CharsSpliterator")] 3

def k9m0 : Method := { name := "<init>", desc := "()V", sig := { parameters := [], returnType := none }, accessFlags := 0, code := none }
def k9c1 : Code := { maxStack := 2, maxLocals := 1, code := jdk_43_method_4_code, exceptionTable := #[], attributes := #[] }
def k9m1 : Method := { name := "canEncode", desc := "(I)Z", sig := { parameters := [.int], returnType := some .boolean }, accessFlags := 9, code := some k9c1 }
def k9c2 : Code := { maxStack := 4, maxLocals := 4, code := jdk_43_method_22_code, exceptionTable := #[], attributes := #[] }
def k9m2 : Method := { name := "indexOf", desc := "([BIII)I", sig := { parameters := [(.array .byte), .int, .int, .int], returnType := some .int }, accessFlags := 9, code := some k9c2 }
def k9c3 : Code := { maxStack := 2, maxLocals := 6, code := jdk_43_method_23_code, exceptionTable := #[], attributes := #[] }
def k9m3 : Method := { name := "indexOfChar", desc := "([BIII)I", sig := { parameters := [(.array .byte), .int, .int, .int], returnType := some .int }, accessFlags := 10, code := some k9c3 }
/-- java/lang/StringLatin1 -/
def k9 : Class := { plain "java/lang/StringLatin1" (some 0) with
  accessFlags := 48
  interfaces := #[]
  cf := some (fileOf pool9 14 #[.nestMembers #[390, 221]] #[{ accessFlags := 0, nameIndex := 7, descriptorIndex := 8, attributes := #[] }, { accessFlags := 9, nameIndex := 90, descriptorIndex := 91, attributes := #[] }, { accessFlags := 9, nameIndex := 101, descriptorIndex := 98, attributes := #[] }, { accessFlags := 10, nameIndex := 97, descriptorIndex := 98, attributes := #[] }] 48 4 #[] #[{ accessFlags := 4120, nameIndex := 121, descriptorIndex := 122, attributes := #[] }])
  fields := #[{ name := "$assertionsDisabled", type := .boolean, accessFlags := 4120, slot := 0, constantValue := 0 }]
  methods := #[k9m0, k9m1, k9m2, k9m3]
  instanceTypes := #[]
  staticTypes := #[.boolean]
  resolved := Array.replicate 395 none
  statics := none }

def pool10 : Array CpInfo := pool [(1, .class_ 2), (0, u "java/lang/Math"), (1, .class_ 6), (1, u "java/lang/Object"), (0, u "<init>"), (0, u "()V"), (89, .class_ 100), (1, u "java/lang/Math$RandomNumberGeneratorHolder"), (71, u "negativeZeroFloatBits"), (0, u "J"), (2, u "negativeZeroDoubleBits"), (21, u "max"), (2, u "min"), (43, u "$assertionsDisabled"), (0, u "Z"), (88, u "(II)I"), (2, u "twoToTheDoubleScaleDown"), (0, u "D"), (4, u "twoToTheDoubleScaleUp"), (9, u "E"), (3, u "PI"), (2, u "TAU"), (2, u "DEGREES_TO_RADIANS"), (0, u "RADIANS_TO_DEGREES")] 94

def k10m0 : Method := { name := "<init>", desc := "()V", sig := { parameters := [], returnType := none }, accessFlags := 2, code := none }
def k10c1 : Code := { maxStack := 2, maxLocals := 2, code := jdk_29_method_65_code, exceptionTable := #[], attributes := #[] }
def k10m1 : Method := { name := "max", desc := "(II)I", sig := { parameters := [.int, .int], returnType := some .int }, accessFlags := 9, code := some k10c1 }
def k10c2 : Code := { maxStack := 2, maxLocals := 2, code := jdk_29_method_69_code, exceptionTable := #[], attributes := #[] }
def k10m2 : Method := { name := "min", desc := "(II)I", sig := { parameters := [.int, .int], returnType := some .int }, accessFlags := 9, code := some k10c2 }
/-- java/lang/Math -/
def k10 : Class := { plain "java/lang/Math" (some 0) with
  accessFlags := 49
  interfaces := #[]
  cf := some (fileOf pool10 1 #[.nestMembers #[98]] #[{ accessFlags := 2, nameIndex := 7, descriptorIndex := 8, attributes := #[] }, { accessFlags := 9, nameIndex := 198, descriptorIndex := 335, attributes := #[] }, { accessFlags := 9, nameIndex := 201, descriptorIndex := 335, attributes := #[] }] 49 4 #[] #[{ accessFlags := 25, nameIndex := 354, descriptorIndex := 339, attributes := #[] }, { accessFlags := 25, nameIndex := 358, descriptorIndex := 339, attributes := #[] }, { accessFlags := 25, nameIndex := 361, descriptorIndex := 339, attributes := #[] }, { accessFlags := 26, nameIndex := 364, descriptorIndex := 339, attributes := #[] }, { accessFlags := 26, nameIndex := 365, descriptorIndex := 339, attributes := #[] }, { accessFlags := 26, nameIndex := 172, descriptorIndex := 173, attributes := #[] }, { accessFlags := 26, nameIndex := 176, descriptorIndex := 173, attributes := #[] }, { accessFlags := 8, nameIndex := 344, descriptorIndex := 339, attributes := #[] }, { accessFlags := 8, nameIndex := 338, descriptorIndex := 339, attributes := #[] }, { accessFlags := 4120, nameIndex := 245, descriptorIndex := 246, attributes := #[] }])
  fields := #[{ name := "E", type := .double, accessFlags := 25, slot := 0, constantValue := 0 }, { name := "PI", type := .double, accessFlags := 25, slot := 1, constantValue := 0 }, { name := "TAU", type := .double, accessFlags := 25, slot := 2, constantValue := 0 }, { name := "DEGREES_TO_RADIANS", type := .double, accessFlags := 26, slot := 3, constantValue := 0 }, { name := "RADIANS_TO_DEGREES", type := .double, accessFlags := 26, slot := 4, constantValue := 0 }, { name := "negativeZeroFloatBits", type := .long, accessFlags := 26, slot := 5, constantValue := 0 }, { name := "negativeZeroDoubleBits", type := .long, accessFlags := 26, slot := 6, constantValue := 0 }, { name := "twoToTheDoubleScaleUp", type := .double, accessFlags := 8, slot := 7, constantValue := 0 }, { name := "twoToTheDoubleScaleDown", type := .double, accessFlags := 8, slot := 8, constantValue := 0 }, { name := "$assertionsDisabled", type := .boolean, accessFlags := 4120, slot := 9, constantValue := 0 }]
  methods := #[k10m0, k10m1, k10m2]
  instanceTypes := #[]
  staticTypes := #[.double, .double, .double, .double, .double, .long, .long, .double, .double, .boolean]
  resolved := Array.replicate 460 none
  statics := none }

def pool11 : Array CpInfo := pool [(6, .class_ 8), (1, u "java/lang/Object"), (0, u "<init>"), (0, u "()V"), (1, .class_ 14), (1, u "java/lang/StringUTF16"), (31, u "$assertionsDisabled"), (0, u "Z"), (13, u "HI_BYTE_SHIFT"), (0, u "I"), (2, u "LO_BYTE_SHIFT"), (49, .methodref 12 116), (0, .nameAndType 117 118), (0, u "compress"), (0, u "([CI[BII)I"), (3, u "([CII)[B"), (138, u "coderFromArrayLen"), (0, u "([BI)B"), (106, .class_ 371), (1, u "java/lang/StringUTF16$LinesSpliterator"), (58, u "MAX_LENGTH"), (196, .class_ 628), (0, u "java/lang/StringUTF16$CodePointsSpliterator"), (0, .class_ 630), (0, u "java/lang/StringUTF16$CharsSpliterator")] 4

def k11m0 : Method := { name := "<init>", desc := "()V", sig := { parameters := [], returnType := none }, accessFlags := 0, code := none }
def k11c1 : Code := { maxStack := 2, maxLocals := 2, code := jdk_52_method_15_code, exceptionTable := #[], attributes := #[] }
def k11m1 : Method := { name := "coderFromArrayLen", desc := "([BI)B", sig := { parameters := [(.array .byte), .int], returnType := some .byte }, accessFlags := 8, code := some k11c1 }
def k11c2 : Code := { maxStack := 5, maxLocals := 6, code := jdk_52_method_16_code, exceptionTable := #[], attributes := #[] }
def k11m2 : Method := { name := "compress", desc := "([CII)[B", sig := { parameters := [(.array .char), .int, .int], returnType := some (.array .byte) }, accessFlags := 9, code := some k11c2 }
def k11c3 : Code := { maxStack := 3, maxLocals := 7, code := jdk_52_method_21_code, exceptionTable := #[], attributes := #[] }
def k11m3 : Method := { name := "compress", desc := "([CI[BII)I", sig := { parameters := [(.array .char), .int, (.array .byte), .int, .int], returnType := some .int }, accessFlags := 9, code := some k11c3 }
/-- java/lang/StringUTF16 -/
def k11 : Class := { plain "java/lang/StringUTF16" (some 0) with
  accessFlags := 48
  interfaces := #[]
  cf := some (fileOf pool11 12 #[.nestMembers #[627, 629, 369]] #[{ accessFlags := 0, nameIndex := 9, descriptorIndex := 10, attributes := #[] }, { accessFlags := 8, nameIndex := 261, descriptorIndex := 262, attributes := #[] }, { accessFlags := 9, nameIndex := 117, descriptorIndex := 122, attributes := #[] }, { accessFlags := 9, nameIndex := 117, descriptorIndex := 118, attributes := #[] }] 48 6 #[] #[{ accessFlags := 26, nameIndex := 61, descriptorIndex := 62, attributes := #[] }, { accessFlags := 26, nameIndex := 65, descriptorIndex := 62, attributes := #[] }, { accessFlags := 24, nameIndex := 430, descriptorIndex := 62, attributes := #[] }, { accessFlags := 4120, nameIndex := 46, descriptorIndex := 47, attributes := #[] }])
  fields := #[{ name := "HI_BYTE_SHIFT", type := .int, accessFlags := 26, slot := 0, constantValue := 0 }, { name := "LO_BYTE_SHIFT", type := .int, accessFlags := 26, slot := 1, constantValue := 0 }, { name := "MAX_LENGTH", type := .int, accessFlags := 24, slot := 2, constantValue := 0 }, { name := "$assertionsDisabled", type := .boolean, accessFlags := 4120, slot := 3, constantValue := 0 }]
  methods := #[k11m0, k11m1, k11m2, k11m3]
  instanceTypes := #[]
  staticTypes := #[.int, .int, .int, .boolean]
  resolved := Array.replicate 635 none
  statics := none }

def pool12 : Array CpInfo := pool [(2, .class_ 4), (1, u "java/lang/Object"), (0, u "<init>"), (0, u "()V"), (17, .class_ 26), (1, u "jdk/internal/util/Preconditions"), (28, .class_ 56), (0, u "jdk/internal/util/Preconditions$4"), (57, .class_ 115), (0, u "jdk/internal/util/Preconditions$1"), (7, u "SIOOBE_FORMATTER"), (0, u "Ljava/util/function/BiFunction;"), (0, .class_ 126), (0, u "jdk/internal/util/Preconditions$2"), (3, u "AIOOBE_FORMATTER"), (0, .class_ 132), (0, u "jdk/internal/util/Preconditions$3"), (3, u "IOOBE_FORMATTER")] 57

def k12m0 : Method := { name := "<init>", desc := "()V", sig := { parameters := [], returnType := none }, accessFlags := 1, code := none }
/-- jdk/internal/util/Preconditions -/
def k12 : Class := { plain "jdk/internal/util/Preconditions" (some 0) with
  accessFlags := 33
  interfaces := #[]
  cf := some (fileOf pool12 24 #[.nestMembers #[55, 131, 125, 114]] #[{ accessFlags := 1, nameIndex := 5, descriptorIndex := 6, attributes := #[] }] 33 2 #[] #[{ accessFlags := 25, nameIndex := 123, descriptorIndex := 124, attributes := #[] }, { accessFlags := 25, nameIndex := 130, descriptorIndex := 124, attributes := #[] }, { accessFlags := 25, nameIndex := 136, descriptorIndex := 124, attributes := #[] }])
  fields := #[{ name := "SIOOBE_FORMATTER", type := (.object "java/util/function/BiFunction"), accessFlags := 25, slot := 0, constantValue := 0 }, { name := "AIOOBE_FORMATTER", type := (.object "java/util/function/BiFunction"), accessFlags := 25, slot := 1, constantValue := 0 }, { name := "IOOBE_FORMATTER", type := (.object "java/util/function/BiFunction"), accessFlags := 25, slot := 2, constantValue := 0 }]
  methods := #[k12m0]
  instanceTypes := #[]
  staticTypes := #[(.object "java/util/function/BiFunction"), (.object "java/util/function/BiFunction"), (.object "java/util/function/BiFunction")]
  resolved := Array.replicate 194 none
  statics := some 1 }

def pool13 : Array CpInfo := pool [(9, u "<init>"), (6, .class_ 18), (1, u "java/lang/Object"), (0, u "()V"), (1, .class_ 23), (1, u "jdk/internal/util/ArraysSupport"), (0, u "LOG2_ARRAY_LONG_INDEX_SCALE"), (0, u "I"), (2, u "U"), (0, u "Ljdk/internal/misc/Unsafe;"), (8, u "BIG_ENDIAN"), (0, u "Z"), (8, u "LOG2_BYTE_BIT_SIZE"), (4, u "LOG2_ARRAY_INT_INDEX_SCALE"), (54, u "JLA"), (0, u "Ljdk/internal/access/JavaLangAccess;"), (11, u "LOG2_ARRAY_BOOLEAN_INDEX_SCALE"), (9, u "LOG2_ARRAY_BYTE_INDEX_SCALE"), (5, u "LOG2_ARRAY_CHAR_INDEX_SCALE"), (5, u "LOG2_ARRAY_SHORT_INDEX_SCALE"), (18, u "LOG2_ARRAY_FLOAT_INDEX_SCALE"), (24, u "LOG2_ARRAY_DOUBLE_INDEX_SCALE"), (89, u "T_BOOLEAN"), (2, u "T_CHAR"), (1, u "T_FLOAT"), (1, u "T_DOUBLE"), (1, u "T_BYTE"), (1, u "T_SHORT"), (1, u "T_INT"), (1, u "T_LONG"), (1, u "SOFT_MAX_ARRAY_LENGTH")] 83

def k13m0 : Method := { name := "<init>", desc := "()V", sig := { parameters := [], returnType := none }, accessFlags := 2, code := none }
/-- jdk/internal/util/ArraysSupport -/
def k13 : Class := { plain "jdk/internal/util/ArraysSupport" (some 0) with
  accessFlags := 33
  interfaces := #[]
  cf := some (fileOf pool13 21 #[] #[{ accessFlags := 2, nameIndex := 9, descriptorIndex := 19, attributes := #[] }] 33 16 #[] #[{ accessFlags := 24, nameIndex := 28, descriptorIndex := 29, attributes := #[] }, { accessFlags := 26, nameIndex := 38, descriptorIndex := 39, attributes := #[] }, { accessFlags := 25, nameIndex := 121, descriptorIndex := 25, attributes := #[] }, { accessFlags := 25, nameIndex := 131, descriptorIndex := 25, attributes := #[] }, { accessFlags := 25, nameIndex := 137, descriptorIndex := 25, attributes := #[] }, { accessFlags := 25, nameIndex := 143, descriptorIndex := 25, attributes := #[] }, { accessFlags := 25, nameIndex := 53, descriptorIndex := 25, attributes := #[] }, { accessFlags := 25, nameIndex := 24, descriptorIndex := 25, attributes := #[] }, { accessFlags := 25, nameIndex := 162, descriptorIndex := 25, attributes := #[] }, { accessFlags := 25, nameIndex := 187, descriptorIndex := 25, attributes := #[] }, { accessFlags := 26, nameIndex := 48, descriptorIndex := 25, attributes := #[] }, { accessFlags := 25, nameIndex := 277, descriptorIndex := 25, attributes := #[] }, { accessFlags := 25, nameIndex := 280, descriptorIndex := 25, attributes := #[] }, { accessFlags := 25, nameIndex := 282, descriptorIndex := 25, attributes := #[] }, { accessFlags := 25, nameIndex := 284, descriptorIndex := 25, attributes := #[] }, { accessFlags := 25, nameIndex := 286, descriptorIndex := 25, attributes := #[] }, { accessFlags := 25, nameIndex := 288, descriptorIndex := 25, attributes := #[] }, { accessFlags := 25, nameIndex := 290, descriptorIndex := 25, attributes := #[] }, { accessFlags := 25, nameIndex := 292, descriptorIndex := 25, attributes := #[] }, { accessFlags := 26, nameIndex := 108, descriptorIndex := 109, attributes := #[] }, { accessFlags := 25, nameIndex := 294, descriptorIndex := 25, attributes := #[] }])
  fields := #[{ name := "U", type := (.object "jdk/internal/misc/Unsafe"), accessFlags := 24, slot := 0, constantValue := 0 }, { name := "BIG_ENDIAN", type := .boolean, accessFlags := 26, slot := 1, constantValue := 0 }, { name := "LOG2_ARRAY_BOOLEAN_INDEX_SCALE", type := .int, accessFlags := 25, slot := 2, constantValue := 0 }, { name := "LOG2_ARRAY_BYTE_INDEX_SCALE", type := .int, accessFlags := 25, slot := 3, constantValue := 0 }, { name := "LOG2_ARRAY_CHAR_INDEX_SCALE", type := .int, accessFlags := 25, slot := 4, constantValue := 0 }, { name := "LOG2_ARRAY_SHORT_INDEX_SCALE", type := .int, accessFlags := 25, slot := 5, constantValue := 0 }, { name := "LOG2_ARRAY_INT_INDEX_SCALE", type := .int, accessFlags := 25, slot := 6, constantValue := 0 }, { name := "LOG2_ARRAY_LONG_INDEX_SCALE", type := .int, accessFlags := 25, slot := 7, constantValue := 0 }, { name := "LOG2_ARRAY_FLOAT_INDEX_SCALE", type := .int, accessFlags := 25, slot := 8, constantValue := 0 }, { name := "LOG2_ARRAY_DOUBLE_INDEX_SCALE", type := .int, accessFlags := 25, slot := 9, constantValue := 0 }, { name := "LOG2_BYTE_BIT_SIZE", type := .int, accessFlags := 26, slot := 10, constantValue := 0 }, { name := "T_BOOLEAN", type := .int, accessFlags := 25, slot := 11, constantValue := 0 }, { name := "T_CHAR", type := .int, accessFlags := 25, slot := 12, constantValue := 0 }, { name := "T_FLOAT", type := .int, accessFlags := 25, slot := 13, constantValue := 0 }, { name := "T_DOUBLE", type := .int, accessFlags := 25, slot := 14, constantValue := 0 }, { name := "T_BYTE", type := .int, accessFlags := 25, slot := 15, constantValue := 0 }, { name := "T_SHORT", type := .int, accessFlags := 25, slot := 16, constantValue := 0 }, { name := "T_INT", type := .int, accessFlags := 25, slot := 17, constantValue := 0 }, { name := "T_LONG", type := .int, accessFlags := 25, slot := 18, constantValue := 0 }, { name := "JLA", type := (.object "jdk/internal/access/JavaLangAccess"), accessFlags := 26, slot := 19, constantValue := 0 }, { name := "SOFT_MAX_ARRAY_LENGTH", type := .int, accessFlags := 25, slot := 20, constantValue := 0 }]
  methods := #[k13m0]
  instanceTypes := #[]
  staticTypes := #[(.object "jdk/internal/misc/Unsafe"), .boolean, .int, .int, .int, .int, .int, .int, .int, .int, .int, .int, .int, .int, .int, .int, .int, .int, .int, (.object "jdk/internal/access/JavaLangAccess"), .int]
  resolved := Array.replicate 378 none
  statics := none }

def pool14 : Array CpInfo := pool [(1, u "java/lang/Cloneable"), (0, .class_ 1), (0, u "java/lang/Object"), (0, .class_ 3)] 3

/-- java/lang/Cloneable -/
def k14 : Class := { plain "java/lang/Cloneable" (some 0) with
  accessFlags := 1537
  interfaces := #[]
  cf := some (fileOf pool14 2 #[] #[] 1537 4 #[] #[])
  fields := #[]
  methods := #[]
  instanceTypes := #[]
  staticTypes := #[]
  resolved := Array.replicate 8 none
  statics := none }

/-- the primitive byte -/
def k15 : Class := { plain "byte" none with kind := .primitive 'B', accessFlags := 0x411 }
/-- [B -/
def k16 : Class := { plain "[B" (some 0) with kind := .array 15 .byte, interfaces := #[14, 2], accessFlags := 1041 }

/-- the primitive char -/
def k17 : Class := { plain "char" none with kind := .primitive 'C', accessFlags := 0x411 }
/-- [C -/
def k18 : Class := { plain "[C" (some 0) with kind := .array 17 .char, interfaces := #[14, 2], accessFlags := 1041 }

/-- the primitive int -/
def k19 : Class := { plain "int" none with kind := .primitive 'I', accessFlags := 0x411 }
/-- [I -/
def k20 : Class := { plain "[I" (some 0) with kind := .array 19 .int, interfaces := #[14, 2], accessFlags := 1041 }

def heap : Heap := #[{ cls := 7, slots := #[.long 0, .int 1, .null, .int 0, .null, .int 0, .int 0], vm := .statics 7 },
  { cls := 12, slots := #[.null, .null, .null], vm := .statics 12 }]
def classes : Array Class := #[k0, k1, k2, k3, k4, k5, k6, k7, k8, k9, k10, k11, k12, k13, k14, k15, k16, k17, k18, k19, k20]
def interned : List (Array UInt16 × Addr) := []
def slotsUsed : Nat := 10
def theMethod : MethodId := ⟨1, 3⟩
def args0 : Array Value := #[.int 5, .int 6, .int 7, .int 8, .int 9]
def aboutOver (below : List Frame) : State where
  vm := { classes := classes, interned := interned.toArray }
  heap := heap
  slotsUsed := slotsUsed
  threads := #[{ frames := .invoking theMethod args0 :: below }]
def below0 : List Frame := [.native { method := ⟨0, 0⟩, args := #[] }]
def about1 : State := aboutOver below0
def p0 : Program := .bare "" "" ""
def e0 : Env := launch0.env 0 0 0
theorem w_frames : about1.frames = Frame.invoking theMethod args0 :: below0 := rfl
set_option maxRecDepth 65536 in
theorem w_args : argsFit about1.vm theMethod args0 = true := by decide +kernel
set_option maxRecDepth 65536 in
theorem w_heap : heapFits about1 = true := by decide +kernel
set_option maxRecDepth 65536 in
theorem w_runnable : about1.curStatus? = some .runnable := by decide +kernel
set_option maxRecDepth 65536 in
theorem w_alone : about1.alone = true := by decide +kernel
set_option maxRecDepth 65536 in
theorem w_named : about1.methodNamed? x = some theMethod := by decide +kernel
set_option maxRecDepth 65536 in
theorem w_hears : about1.hears theMethod below0 = true := by decide +kernel
set_option maxRecDepth 65536 in
theorem w_ripe : about1.ripe theMethod args0 below0 = true := by decide +kernel
theorem w_running : about1.status = .running := rfl
set_option maxRecDepth 65536 in
theorem w_room : about1.hasRoom e0.platform room_1 = true :=
  launch0.hasRoom_least _ room_1 (by decide +kernel) (by decide +kernel) (by decide +kernel) (by decide +kernel) (by decide +kernel) (by decide +kernel)
theorem allAtoms_all (ts : List Jvm.Cond) (a : Array Jvm.Value) (st : Jvm.State) : (allAtoms ts).before a st = ts.all (fun c => c.before a st) := by
  induction ts with
  | nil => rfl
  | cons c t ih =>
    show (Jvm.Cond.and c (allAtoms t)).before a st = _
    rw [Jvm.Cond.before_and, ih, List.all_cons]
def words1 : List Jvm.Cond := Jvm.Cond.code x code maxLocals ret :: tables_1
/-- a 'code' word, met by the world's own term for the bytes: nothing is compared byte by byte -/
theorem code_word {y : MethodName} {bytes : ByteArray} {mx : Nat} {rt : Option FieldType} {a : Array Value} {s : State} {m : MethodId} {meth : Method} {c : Code} (h1 : s.methodNamed? y = some m) (h2 : s.vm.method? m = some meth) (h3 : meth.code = some c) (h4 : c.code = bytes)
    (h5 : (c.maxLocals == mx && c.exceptionTable.isEmpty && decide (c.maxStack ≤ mostOperands) && decide (meth.sig.returnType = rt) && !meth.locks && decide (parseMethodDescriptor y.desc = some meth.sig)) = true) : (Jvm.Cond.code y bytes mx rt).before a s = true := by
  simp only [Bool.and_eq_true, beq_iff_eq, Bool.not_eq_true', decide_eq_true_eq] at h5
  obtain ⟨⟨⟨⟨⟨g1, g2⟩, g3⟩, g4⟩, g5⟩, g6⟩ := h5
  simp [Cond.before, Cond.holds, Cond.value, h1, h2, h3, h4, g1, g2, g3, g4, g5, g6]
def isCode : Jvm.Cond → Bool
  | .code _ _ _ _ => true
  | _ => false
theorem all_split {L : List Jvm.Cond} {P : Jvm.Cond → Bool} (h1 : L.all (fun c => isCode c || P c) = true) (h2 : ∀ c ∈ L.filter isCode, P c = true) : L.all P = true := by
  refine List.all_eq_true.mpr fun c hc => ?_
  have h := List.all_eq_true.mp h1 c hc
  rcases Bool.eq_false_or_eq_true (isCode c) with hi | hi
  · exact h2 c (List.mem_filter.mpr ⟨hc, hi⟩)
  · simpa [hi] using h
set_option maxRecDepth 65536 in
theorem w_c0 : (Jvm.Cond.code x code maxLocals ret).before args0 about1 = true := code_word (m := ⟨1, 3⟩) (meth := k1m3) (c := k1c3) (by decide +kernel) rfl rfl rfl (by decide +kernel)
set_option maxRecDepth 65536 in
theorem w_c1 : (Jvm.Cond.code ({ cls := "com/example/endpoint/endpoint/maven/PathPatternIsPatternPinLaw", name := "draw", desc := "(I)C" } : Jvm.MethodName) method_2_code (2 : Nat) (Option.some Jvm.ClassFile.FieldType.char)).before args0 about1 = true := code_word (m := ⟨1, 1⟩) (meth := k1m1) (c := k1c1) (by decide +kernel) rfl rfl rfl (by decide +kernel)
set_option maxRecDepth 65536 in
theorem w_c2 : (Jvm.Cond.code ({ cls := "java/lang/String", name := "<init>", desc := "([C)V" } : Jvm.MethodName) jdk_42_method_3_code (2 : Nat) (Option.none : Option Jvm.ClassFile.FieldType)).before args0 about1 = true := code_word (m := ⟨7, 1⟩) (meth := k7m1) (c := k7c1) (by decide +kernel) rfl rfl rfl (by decide +kernel)
set_option maxRecDepth 65536 in
theorem w_c3 : (Jvm.Cond.code ({ cls := "java/lang/String", name := "<init>", desc := "([CIILjava/lang/Void;)V" } : Jvm.MethodName) jdk_42_method_149_code (6 : Nat) (Option.none : Option Jvm.ClassFile.FieldType)).before args0 about1 = true := code_word (m := ⟨7, 5⟩) (meth := k7m5) (c := k7c5) (by decide +kernel) rfl rfl rfl (by decide +kernel)
set_option maxRecDepth 65536 in
theorem w_c4 : (Jvm.Cond.code ({ cls := "java/lang/Object", name := "<init>", desc := "()V" } : Jvm.MethodName) object_method_1_code (1 : Nat) (Option.none : Option Jvm.ClassFile.FieldType)).before args0 about1 = true := code_word (m := ⟨0, 0⟩) (meth := k0m0) (c := k0c0) (by decide +kernel) rfl rfl rfl (by decide +kernel)
set_option maxRecDepth 65536 in
theorem w_c5 : (Jvm.Cond.code ({ cls := "com/example/endpoint/endpoint/maven/PathPattern", name := "isPattern", desc := "(Ljava/lang/String;)Z" } : Jvm.MethodName) prog_14_method_2_code (1 : Nat) (Option.some Jvm.ClassFile.FieldType.boolean)).before args0 about1 = true := code_word (m := ⟨8, 0⟩) (meth := k8m0) (c := k8c0) (by decide +kernel) rfl rfl rfl (by decide +kernel)
set_option maxRecDepth 65536 in
theorem w_c6 : (Jvm.Cond.code ({ cls := "java/lang/String", name := "indexOf", desc := "(I)I" } : Jvm.MethodName) jdk_42_method_79_code (2 : Nat) (Option.some Jvm.ClassFile.FieldType.int)).before args0 about1 = true := code_word (m := ⟨7, 3⟩) (meth := k7m3) (c := k7c3) (by decide +kernel) rfl rfl rfl (by decide +kernel)
set_option maxRecDepth 65536 in
theorem w_c7 : (Jvm.Cond.code ({ cls := "java/lang/String", name := "indexOf", desc := "(II)I" } : Jvm.MethodName) jdk_42_method_80_code (3 : Nat) (Option.some Jvm.ClassFile.FieldType.int)).before args0 about1 = true := code_word (m := ⟨7, 4⟩) (meth := k7m4) (c := k7c4) (by decide +kernel) rfl rfl rfl (by decide +kernel)
set_option maxRecDepth 65536 in
theorem w_c8 : (Jvm.Cond.code ({ cls := "java/lang/String", name := "isLatin1", desc := "()Z" } : Jvm.MethodName) jdk_42_method_154_code (1 : Nat) (Option.some Jvm.ClassFile.FieldType.boolean)).before args0 about1 = true := code_word (m := ⟨7, 7⟩) (meth := k7m7) (c := k7c7) (by decide +kernel) rfl rfl rfl (by decide +kernel)
set_option maxRecDepth 65536 in
theorem w_c9 : (Jvm.Cond.code ({ cls := "java/lang/String", name := "length", desc := "()I" } : Jvm.MethodName) jdk_42_method_54_code (1 : Nat) (Option.some Jvm.ClassFile.FieldType.int)).before args0 about1 = true := code_word (m := ⟨7, 2⟩) (meth := k7m2) (c := k7c2) (by decide +kernel) rfl rfl rfl (by decide +kernel)
set_option maxRecDepth 65536 in
theorem w_c10 : (Jvm.Cond.code ({ cls := "java/lang/String", name := "coder", desc := "()B" } : Jvm.MethodName) jdk_42_method_152_code (1 : Nat) (Option.some Jvm.ClassFile.FieldType.byte)).before args0 about1 = true := code_word (m := ⟨7, 6⟩) (meth := k7m6) (c := k7c6) (by decide +kernel) rfl rfl rfl (by decide +kernel)
set_option maxRecDepth 65536 in
theorem w_c11 : (Jvm.Cond.code ({ cls := "java/lang/StringLatin1", name := "indexOf", desc := "([BIII)I" } : Jvm.MethodName) jdk_43_method_22_code (4 : Nat) (Option.some Jvm.ClassFile.FieldType.int)).before args0 about1 = true := code_word (m := ⟨9, 2⟩) (meth := k9m2) (c := k9c2) (by decide +kernel) rfl rfl rfl (by decide +kernel)
set_option maxRecDepth 65536 in
theorem w_c12 : (Jvm.Cond.code ({ cls := "java/lang/StringLatin1", name := "canEncode", desc := "(I)Z" } : Jvm.MethodName) jdk_43_method_4_code (1 : Nat) (Option.some Jvm.ClassFile.FieldType.boolean)).before args0 about1 = true := code_word (m := ⟨9, 1⟩) (meth := k9m1) (c := k9c1) (by decide +kernel) rfl rfl rfl (by decide +kernel)
set_option maxRecDepth 65536 in
theorem w_c13 : (Jvm.Cond.code ({ cls := "java/lang/Math", name := "max", desc := "(II)I" } : Jvm.MethodName) jdk_29_method_65_code (2 : Nat) (Option.some Jvm.ClassFile.FieldType.int)).before args0 about1 = true := code_word (m := ⟨10, 1⟩) (meth := k10m1) (c := k10c1) (by decide +kernel) rfl rfl rfl (by decide +kernel)
set_option maxRecDepth 65536 in
theorem w_c14 : (Jvm.Cond.code ({ cls := "java/lang/Math", name := "min", desc := "(II)I" } : Jvm.MethodName) jdk_29_method_69_code (2 : Nat) (Option.some Jvm.ClassFile.FieldType.int)).before args0 about1 = true := code_word (m := ⟨10, 2⟩) (meth := k10m2) (c := k10c2) (by decide +kernel) rfl rfl rfl (by decide +kernel)
set_option maxRecDepth 65536 in
theorem w_c15 : (Jvm.Cond.code ({ cls := "java/lang/StringUTF16", name := "compress", desc := "([CII)[B" } : Jvm.MethodName) jdk_52_method_16_code (6 : Nat) (Option.some (Jvm.ClassFile.FieldType.array Jvm.ClassFile.FieldType.byte))).before args0 about1 = true := code_word (m := ⟨11, 2⟩) (meth := k11m2) (c := k11c2) (by decide +kernel) rfl rfl rfl (by decide +kernel)
set_option maxRecDepth 65536 in
theorem w_c16 : (Jvm.Cond.code ({ cls := "java/lang/StringUTF16", name := "compress", desc := "([CI[BII)I" } : Jvm.MethodName) jdk_52_method_21_code (7 : Nat) (Option.some Jvm.ClassFile.FieldType.int)).before args0 about1 = true := code_word (m := ⟨11, 3⟩) (meth := k11m3) (c := k11c3) (by decide +kernel) rfl rfl rfl (by decide +kernel)
set_option maxRecDepth 65536 in
theorem w_c17 : (Jvm.Cond.code ({ cls := "java/lang/StringUTF16", name := "coderFromArrayLen", desc := "([BI)B" } : Jvm.MethodName) jdk_52_method_15_code (2 : Nat) (Option.some Jvm.ClassFile.FieldType.byte)).before args0 about1 = true := code_word (m := ⟨11, 1⟩) (meth := k11m1) (c := k11c1) (by decide +kernel) rfl rfl rfl (by decide +kernel)
set_option maxRecDepth 65536 in
theorem w_c18 : (Jvm.Cond.code ({ cls := "com/example/endpoint/endpoint/maven/PathPatternIsPatternPinLaw", name := "wild", desc := "(C)Z" } : Jvm.MethodName) method_3_code (1 : Nat) (Option.some Jvm.ClassFile.FieldType.boolean)).before args0 about1 = true := code_word (m := ⟨1, 2⟩) (meth := k1m2) (c := k1c2) (by decide +kernel) rfl rfl rfl (by decide +kernel)
set_option maxRecDepth 65536 in
theorem w_c19 : (Jvm.Cond.code ({ cls := "java/lang/StringLatin1", name := "indexOfChar", desc := "([BIII)I" } : Jvm.MethodName) jdk_43_method_23_code (6 : Nat) (Option.some Jvm.ClassFile.FieldType.int)).before args0 about1 = true := code_word (m := ⟨9, 3⟩) (meth := k9m3) (c := k9c3) (by decide +kernel) rfl rfl rfl (by decide +kernel)
def codes1 : List Jvm.Cond := [Jvm.Cond.code x code maxLocals ret, Jvm.Cond.code ({ cls := "com/example/endpoint/endpoint/maven/PathPatternIsPatternPinLaw", name := "draw", desc := "(I)C" } : Jvm.MethodName) method_2_code (2 : Nat) (Option.some Jvm.ClassFile.FieldType.char), Jvm.Cond.code ({ cls := "java/lang/String", name := "<init>", desc := "([C)V" } : Jvm.MethodName) jdk_42_method_3_code (2 : Nat) (Option.none : Option Jvm.ClassFile.FieldType), Jvm.Cond.code ({ cls := "java/lang/String", name := "<init>", desc := "([CIILjava/lang/Void;)V" } : Jvm.MethodName) jdk_42_method_149_code (6 : Nat) (Option.none : Option Jvm.ClassFile.FieldType), Jvm.Cond.code ({ cls := "java/lang/Object", name := "<init>", desc := "()V" } : Jvm.MethodName) object_method_1_code (1 : Nat) (Option.none : Option Jvm.ClassFile.FieldType), Jvm.Cond.code ({ cls := "com/example/endpoint/endpoint/maven/PathPattern", name := "isPattern", desc := "(Ljava/lang/String;)Z" } : Jvm.MethodName) prog_14_method_2_code (1 : Nat) (Option.some Jvm.ClassFile.FieldType.boolean), Jvm.Cond.code ({ cls := "java/lang/String", name := "indexOf", desc := "(I)I" } : Jvm.MethodName) jdk_42_method_79_code (2 : Nat) (Option.some Jvm.ClassFile.FieldType.int), Jvm.Cond.code ({ cls := "java/lang/String", name := "indexOf", desc := "(II)I" } : Jvm.MethodName) jdk_42_method_80_code (3 : Nat) (Option.some Jvm.ClassFile.FieldType.int), Jvm.Cond.code ({ cls := "java/lang/String", name := "isLatin1", desc := "()Z" } : Jvm.MethodName) jdk_42_method_154_code (1 : Nat) (Option.some Jvm.ClassFile.FieldType.boolean), Jvm.Cond.code ({ cls := "java/lang/String", name := "length", desc := "()I" } : Jvm.MethodName) jdk_42_method_54_code (1 : Nat) (Option.some Jvm.ClassFile.FieldType.int), Jvm.Cond.code ({ cls := "java/lang/String", name := "coder", desc := "()B" } : Jvm.MethodName) jdk_42_method_152_code (1 : Nat) (Option.some Jvm.ClassFile.FieldType.byte), Jvm.Cond.code ({ cls := "java/lang/StringLatin1", name := "indexOf", desc := "([BIII)I" } : Jvm.MethodName) jdk_43_method_22_code (4 : Nat) (Option.some Jvm.ClassFile.FieldType.int), Jvm.Cond.code ({ cls := "java/lang/StringLatin1", name := "canEncode", desc := "(I)Z" } : Jvm.MethodName) jdk_43_method_4_code (1 : Nat) (Option.some Jvm.ClassFile.FieldType.boolean), Jvm.Cond.code ({ cls := "java/lang/Math", name := "max", desc := "(II)I" } : Jvm.MethodName) jdk_29_method_65_code (2 : Nat) (Option.some Jvm.ClassFile.FieldType.int), Jvm.Cond.code ({ cls := "java/lang/Math", name := "min", desc := "(II)I" } : Jvm.MethodName) jdk_29_method_69_code (2 : Nat) (Option.some Jvm.ClassFile.FieldType.int), Jvm.Cond.code ({ cls := "java/lang/StringUTF16", name := "compress", desc := "([CII)[B" } : Jvm.MethodName) jdk_52_method_16_code (6 : Nat) (Option.some (Jvm.ClassFile.FieldType.array Jvm.ClassFile.FieldType.byte)), Jvm.Cond.code ({ cls := "java/lang/StringUTF16", name := "compress", desc := "([CI[BII)I" } : Jvm.MethodName) jdk_52_method_21_code (7 : Nat) (Option.some Jvm.ClassFile.FieldType.int), Jvm.Cond.code ({ cls := "java/lang/StringUTF16", name := "coderFromArrayLen", desc := "([BI)B" } : Jvm.MethodName) jdk_52_method_15_code (2 : Nat) (Option.some Jvm.ClassFile.FieldType.byte), Jvm.Cond.code ({ cls := "com/example/endpoint/endpoint/maven/PathPatternIsPatternPinLaw", name := "wild", desc := "(C)Z" } : Jvm.MethodName) method_3_code (1 : Nat) (Option.some Jvm.ClassFile.FieldType.boolean), Jvm.Cond.code ({ cls := "java/lang/StringLatin1", name := "indexOfChar", desc := "([BIII)I" } : Jvm.MethodName) jdk_43_method_23_code (6 : Nat) (Option.some Jvm.ClassFile.FieldType.int)]
set_option maxRecDepth 65536 in
theorem codes_eq : words1.filter isCode = codes1 := rfl
theorem w_codes : ∀ c ∈ words1.filter isCode, c.before args0 about1 = true := by
  rw [codes_eq]
  intro c hc
  simp only [codes1, List.mem_cons, List.not_mem_nil, or_false] at hc
  rcases hc with rfl | rfl | rfl | rfl | rfl | rfl | rfl | rfl | rfl | rfl | rfl | rfl | rfl | rfl | rfl | rfl | rfl | rfl | rfl | rfl
  · exact w_c0
  · exact w_c1
  · exact w_c2
  · exact w_c3
  · exact w_c4
  · exact w_c5
  · exact w_c6
  · exact w_c7
  · exact w_c8
  · exact w_c9
  · exact w_c10
  · exact w_c11
  · exact w_c12
  · exact w_c13
  · exact w_c14
  · exact w_c15
  · exact w_c16
  · exact w_c17
  · exact w_c18
  · exact w_c19
set_option maxRecDepth 65536 in
theorem w_t1 : (words1.take 24).all (fun c => isCode c || c.before args0 about1) = true := by decide +kernel
set_option maxRecDepth 65536 in
theorem w_t2 : ((words1.drop 24).take 24).all (fun c => isCode c || c.before args0 about1) = true := by decide +kernel
set_option maxRecDepth 65536 in
theorem w_t3 : (((words1.drop 24).drop 24).take 24).all (fun c => isCode c || c.before args0 about1) = true := by decide +kernel
set_option maxRecDepth 65536 in
theorem w_t4 : (((words1.drop 24).drop 24).drop 24).all (fun c => isCode c || c.before args0 about1) = true := by decide +kernel
theorem w_tables : (allAtoms (Jvm.Cond.code x code maxLocals ret :: tables_1)).before args0 about1 = true := by
  rw [allAtoms_all]
  show words1.all (fun c => c.before args0 about1) = true
  refine all_split ?_ w_codes
  rw [← List.take_append_drop 24 words1, List.all_append, w_t1, ← List.take_append_drop 24 (words1.drop 24), List.all_append, w_t2, ← List.take_append_drop 24 ((words1.drop 24).drop 24), List.all_append, w_t3, w_t4]
  rfl
set_option maxRecDepth 65536 in
theorem w_rest : rest_1_c.before args0 about1 = true := by decide +kernel
set_option maxRecDepth 65536 in
theorem w_case : (Jvm.Cond.and given_1 narrow_1).before args0 about1 = true := by decide +kernel
set_option maxRecDepth 65536 in
theorem w_consts : constsHeld consts_1 about1 := Jvm.Lit.constsHeldB_iff.mp (by decide +kernel)
theorem w_applies : (headSpec (Jvm.Cond.code x code maxLocals ret :: tables_1) room_1).applies x e0.platform about1 = true :=
  (Spec.applies_iff w_frames).mpr ⟨w_running, w_runnable, w_alone, w_named, w_hears, w_ripe, w_room, w_tables⟩
theorem atStart : AtStart classFile x code maxLocals ret World_1 tables_1 room_1 Calls_1 rest_1 Pre_1 launch0 p0 e0 about1 theMethod args0 below0 :=
  ⟨lists_1, trivial, launch0.admits_env _ _ _, launch0.least_env, fairChoices_fair.cas, fairChoices_fair.clock, w_frames, w_args, w_heap, w_applies, ⟨w_consts, trivial⟩, w_rest, w_case⟩
end start1
theorem witness_1 : WitnessClaimed_1 := ⟨start1.p0, start1.e0, start1.about1, start1.theMethod, start1.args0, start1.below0, start1.atStart⟩
end Jvm.Pilot.@@N@@
